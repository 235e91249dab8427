import Derived.Test.YbulkblcB
namespace Go.Proofs.Ybulkblc
open Go.RowKit

theorem copy_1 (b c : Nat) (m : Int) (ty : TypeId) (w : World) (hb : b < w.heap.size) (h : w.cell? ⟨b, 0, none⟩ = some (.int .u64 m)) :
    (Builtin.copy_ #[40, 40] ty #[.slice (some ⟨w.heap.size, 0, none⟩) 1 1, .slice (some ⟨b, 0, none⟩) 1 c]).run Yba.prog (w.alloc (.cells #[.int .u64 0] 39)) = .ok (goInt 1) (w.alloc (.cells #[.int .u64 m] 39)) := by
  have e := run_copy_cells (P := Yba.prog) (w.alloc (.cells #[.int .u64 0] 39)) 40 40 ty 39 w.heap.size 0 1 1 ⟨b, 0, none⟩ 1 c [.int .u64 m] Yba.underlying40 (by kernel_rfl) rfl
    (by intro j v hj; match j, hj with | 0, hj => { simp at hj; subst hj; simp [Addr.add]; rw [World.cell?_alloc_old _ _ _ (by simp; omega)]; exact h } | (j + 1), hj => { simp at hj })
    (by intro j hj; have e : j = 0 := (by simpa using hj); subst e; simp [go_sem])
    (by intro j hj; simp [go_sem])
    (by intro v hv; simp at hv; subst hv; rfl)
  rw [e]
  congr 1
  simp [World.setCells, go_sem]

set_option maxHeartbeats 400000 in
theorem set_1 (b c : Nat) (m : Int) (w : World) (hb : b < w.heap.size) (h : w.cell? ⟨b, 0, none⟩ = some (.int .u64 m)) :
    Calls Yba.prog 22 #[.slice none 0 0, .slice (some ⟨b, 0, none⟩) 1 c] w fun e w' => e = .returned (.slice (some ⟨w.heap.size, 0, none⟩) 1 1) ∧ w' = w.alloc (.cells #[.int .u64 m] 39) := by
  have hcp := fun ty => copy_1 b c m ty w hb h
  go_enter Yba.func22, Yba.ntmps22
  go_wp2_with (go_at_call 23; refine (make_1 _).mono ?_; rintro e w' ⟨rfl, rfl⟩)
  go_ret
  exact ⟨rfl, rfl⟩

set_option maxHeartbeats 400000 in
theorem add_10 (b c : Nat) (a : Option Addr) (c' : Nat) (m : Int) (w : World) (hb : b < w.heap.size) (h : w.cell? ⟨b, 0, none⟩ = some (.int .u64 m)) :
    Calls Yba.prog 18 #[.slice none 0 0, .slice (some ⟨b, 0, none⟩) 1 c, .slice a 0 c'] w fun e w' => e = .returned (.slice (some ⟨w.heap.size, 0, none⟩) 1 1) ∧ w' = w.alloc (.cells #[.int .u64 m] 39) := by
  go_enter Yba.func18, Yba.ntmps18
  go_wp2_with (go_at_call 22; refine (set_1 b c m _ hb h).mono ?_; rintro e w' ⟨rfl, rfl⟩)
  go_ret
  exact ⟨rfl, rfl⟩

set_option maxHeartbeats 400000 in
theorem add_01 (b c : Nat) (a : Option Addr) (c' : Nat) (m : Int) (w : World) (hb : b < w.heap.size) (h : w.cell? ⟨b, 0, none⟩ = some (.int .u64 m)) :
    Calls Yba.prog 18 #[.slice none 0 0, .slice a 0 c', .slice (some ⟨b, 0, none⟩) 1 c] w fun e w' => e = .returned (.slice (some ⟨w.heap.size, 0, none⟩) 1 1) ∧ w' = w.alloc (.cells #[.int .u64 m] 39) := by
  go_enter Yba.func18, Yba.ntmps18
  go_wp2_with (go_at_call 18; refine (add_10 b c a c' m _ hb h).mono ?_; rintro e w' ⟨rfl, rfl⟩)
  go_ret
  exact ⟨rfl, rfl⟩

set_option maxHeartbeats 400000 in
theorem add_11 (b1 c1 b2 c2 : Nat) (x y : Int) (w : World) (hb1 : b1 < w.heap.size) (hb2 : b2 < w.heap.size) (hc1 : 1 ≤ c1) (hc2 : 1 ≤ c2) (h1 : w.cell? ⟨b1, 0, none⟩ = some (.int .u64 x)) (h2 : w.cell? ⟨b2, 0, none⟩ = some (.int .u64 y)) (hx : 0 < x) (hy : 0 < y) (hxy : x + y < 18446744073709551616) :
    Calls Yba.prog 18 #[.slice none 0 0, .slice (some ⟨b1, 0, none⟩) 1 c1, .slice (some ⟨b2, 0, none⟩) 1 c2] w fun e w' => e = .returned (.slice (some ⟨w.heap.size, 0, none⟩) 1 6) ∧
      ∃ n, w' = (w.alloc (.cells #[.int .u64 (x + y), .int .u64 0, .int .u64 0, .int .u64 0, .int .u64 0, .int .u64 0] 39)).drewN n := by
  have e1 : (x + y) % 18446744073709551616 = x + y := by omega
  have e2 : (x + y) / 18446744073709551616 = 0 := by omega
  have i1 : (1 : Int) ≤ (c1 : Int) := by omega
  have i2 : (1 : Int) ≤ (c2 : Int) := by omega
  go_enter Yba.func18, Yba.ntmps18
  go_wp2_with (go_at_call 23; refine (make_2 _).mono ?_; rintro e w' ⟨rfl, rfl⟩)
  go_region_with (first | (go_at_call 8; refine (addVV_1 w.heap.size b1 b2 6 c1 c2 x y 0 _ (by simp [go_sem, hb1, h1]) (by simp [go_sem, hb2, h2]) (by simp [go_sem]) (by simp [go_sem]) (by omega) (by omega)).mono ?_; rintro e w' ⟨rfl, nn, rfl⟩))
  go_wp2_with (go_at_call 26; refine (norm_2 w.heap.size 6 (x + y) (by omega) _ (by simp [go_sem]) (by simp [go_sem]) (by simp; omega)).mono ?_; rintro e w' ⟨rfl, rfl⟩)
  go_ret
  have hfin : (w.alloc (.cells #[.int .u64 (x + y), .int .u64 0, .int .u64 0, .int .u64 0, .int .u64 0, .int .u64 0] 39)).setCell ⟨w.heap.size, 1, none⟩ (.int .u64 0) = w.alloc (.cells #[.int .u64 (x + y), .int .u64 0, .int .u64 0, .int .u64 0, .int .u64 0, .int .u64 0] 39) := by
    rw [World.setCell_alloc_at _ _ _ _ _ rfl]; rfl
  exact ⟨rfl, 1 + nn, congrArg (fun z => World.drewN z (1 + nn)) hfin⟩

set_option maxHeartbeats 400000 in
theorem sub_00 (a a' : Option Addr) (c c' : Nat) (w : World) :
    Calls Yba.prog 20 #[.slice none 0 0, .slice a 0 c, .slice a' 0 c'] w fun e w' => e = .returned (.slice none 0 0) ∧ w' = w := by
  go_enter Yba.func20, Yba.ntmps20
  go_wp2
  go_ret
  exact ⟨rfl, rfl⟩

set_option maxHeartbeats 400000 in
theorem sub_10 (b c : Nat) (a : Option Addr) (c' : Nat) (m : Int) (w : World) (hb : b < w.heap.size) (h : w.cell? ⟨b, 0, none⟩ = some (.int .u64 m)) :
    Calls Yba.prog 20 #[.slice none 0 0, .slice (some ⟨b, 0, none⟩) 1 c, .slice a 0 c'] w fun e w' => e = .returned (.slice (some ⟨w.heap.size, 0, none⟩) 1 1) ∧ w' = w.alloc (.cells #[.int .u64 m] 39) := by
  go_enter Yba.func20, Yba.ntmps20
  go_wp2_with (go_at_call 22; refine (set_1 b c m _ hb h).mono ?_; rintro e w' ⟨rfl, rfl⟩)
  go_ret
  exact ⟨rfl, rfl⟩

set_option maxHeartbeats 400000 in
theorem sub_11 (b1 c1 b2 c2 : Nat) (x y : Int) (w : World) (hb1 : b1 < w.heap.size) (hb2 : b2 < w.heap.size) (hc1 : 1 ≤ c1) (hc2 : 1 ≤ c2) (h1 : w.cell? ⟨b1, 0, none⟩ = some (.int .u64 x)) (h2 : w.cell? ⟨b2, 0, none⟩ = some (.int .u64 y)) (hy : 0 ≤ y) (hxy : y < x) (hx : x < 18446744073709551616) :
    Calls Yba.prog 20 #[.slice none 0 0, .slice (some ⟨b1, 0, none⟩) 1 c1, .slice (some ⟨b2, 0, none⟩) 1 c2] w fun e w' => e = .returned (.slice (some ⟨w.heap.size, 0, none⟩) 1 1) ∧
      ∃ n, w' = (w.alloc (.cells #[.int .u64 (x - y)] 39)).drewN n := by
  have i1 : (1 : Int) ≤ (c1 : Int) := by omega
  have i2 : (1 : Int) ≤ (c2 : Int) := by omega
  go_enter Yba.func20, Yba.ntmps20
  go_wp2_with (go_at_call 23; refine (make_1 _).mono ?_; rintro e w' ⟨rfl, rfl⟩)
  go_region_with (first | (go_at_call 9; refine (subVV_1 w.heap.size b1 b2 1 c1 c2 x y 0 _ (by simp [go_sem, hb1, h1]) (by simp [go_sem, hb2, h2]) (by simp [go_sem]) (by simp [go_sem]) (by omega) (by omega) (by omega)).mono ?_; rintro e w' ⟨rfl, nn, rfl⟩))
  go_wp2_with (go_at_call 26; refine (norm_1 w.heap.size 1 (x - y) (by omega) _ (by simp [go_sem]) (by simp; omega)).mono ?_; rintro e w' ⟨rfl, rfl⟩)
  go_ret
  exact ⟨rfl, 1 + nn, rfl⟩

set_option maxHeartbeats 400000 in
theorem sub_11e (b1 c1 b2 c2 : Nat) (x : Int) (w : World) (hb1 : b1 < w.heap.size) (hb2 : b2 < w.heap.size) (hc1 : 1 ≤ c1) (hc2 : 1 ≤ c2) (h1 : w.cell? ⟨b1, 0, none⟩ = some (.int .u64 x)) (h2 : w.cell? ⟨b2, 0, none⟩ = some (.int .u64 x)) (hy : 0 ≤ x) (hx : x < 18446744073709551616) :
    Calls Yba.prog 20 #[.slice none 0 0, .slice (some ⟨b1, 0, none⟩) 1 c1, .slice (some ⟨b2, 0, none⟩) 1 c2] w fun e w' => e = .returned (.slice (some ⟨w.heap.size, 0, none⟩) 0 1) ∧
      ∃ n, w' = (w.alloc (.cells #[.int .u64 0] 39)).drewN n := by
  have i1 : (1 : Int) ≤ (c1 : Int) := by omega
  have i2 : (1 : Int) ≤ (c2 : Int) := by omega
  go_enter Yba.func20, Yba.ntmps20
  go_wp2_with (go_at_call 23; refine (make_1 _).mono ?_; rintro e w' ⟨rfl, rfl⟩)
  go_region_with (first | (go_at_call 9; refine (subVV_1 w.heap.size b1 b2 1 c1 c2 x x 0 _ (by simp [go_sem, hb1, h1]) (by simp [go_sem, hb2, h2]) (by simp [go_sem]) (by simp [go_sem]) (by omega) (by omega) (by omega)).mono ?_; rintro e w' ⟨rfl, nn, rfl⟩))
  go_wp2_with (go_at_call 26; refine (norm_1z w.heap.size 1 (by omega) _ (by simp [go_sem])).mono ?_; rintro e w' ⟨rfl, rfl⟩)
  go_ret
  exact ⟨rfl, 1 + nn, rfl⟩
end Go.Proofs.Ybulkblc
