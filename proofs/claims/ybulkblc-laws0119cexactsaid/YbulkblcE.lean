import Derived.Test.YbulkblcD
namespace Go.Proofs.Ybulkblc
open Go.RowKit

set_option maxHeartbeats 2000000 in
/-- Int.Sub, the signs differ. -/
theorem Sub_diff (w : World) (z x y : Nat) (bx : Bool) (a1 a2 : Option Addr) (l1 c1 l2 c2 : Nat) (m n : Int) (hxz : x < z) (hyz : y < z) (hz : z < w.heap.size)
    (z0 : w.cell? ⟨z, 0, none⟩ = some (.bool false)) (z1 : w.cell? ⟨z, 1, none⟩ = some (.slice none 0 0)) (f0 : w.frozen? ⟨z, 0, none⟩ = false) (f1 : w.frozen? ⟨z, 1, none⟩ = false) (zb : Hid (∃ cs, w.heap[z]? = some (.cells cs 42 (0, 0))))
    (x0 : w.cell? ⟨x, 0, none⟩ = some (.bool bx)) (x1 : w.cell? ⟨x, 1, none⟩ = some (.slice a1 l1 c1)) (y0 : w.cell? ⟨y, 0, none⟩ = some (.bool (!bx))) (y1 : w.cell? ⟨y, 1, none⟩ = some (.slice a2 l2 c2))
    (h1 : IsNat z w a1 l1 c1 m) (h2 : IsNat z w a2 l2 c2 n) (hp : 0 < m + n) (hq : m + n < 18446744073709551616) :
    Calls Yba.prog 14 #[.pointer (some ⟨z, 0, none⟩), .pointer (some ⟨x, 0, none⟩), .pointer (some ⟨y, 0, none⟩)] w fun e w' => e = .returned (.pointer (some ⟨z, 0, none⟩)) ∧ Left0 w w' z bx (m + n) := by
  have hn1 : ¬ z = x := by omega
  have hn2 : ¬ z = y := by omega
  have hne : (bx != !bx) = true := by cases bx <;> rfl
  go_enter Yba.func14, Yba.ntmps14
  go_wp2
  go_quiet (fail)
  go_wp2_with (fail)
  go_region_with (first
    | (go_at_call 18; refine (add_any (B := z) (w := _) (m := m) (n := n) ?h1 ?h2 ?hB hp hq).mono ?_; (case h1 => exact h1); (case h2 => exact h2); (case hB => simp; omega); rintro e w' ⟨a, l, c, rfl, hN, hbel⟩; have kz := hbel.cell (p := ⟨z, 1, none⟩) hz; have kf := hbel.frozen (p := ⟨z, 1, none⟩) hz; have kz0 := hbel.cell (p := ⟨z, 0, none⟩) hz; have kf0 := hbel.frozen (p := ⟨z, 0, none⟩) hz; simp only [World.cell?_drewN, World.frozen?_drewN, z1, f1, z0, f0] at kz kf kz0 kf0))
  all_goals
    have hN0 := hN
    rcases hN with ⟨hN1, -⟩ | ⟨hN1, hN2, rfl, -, rfl, -, -⟩
    · omega
    go_wp2
    go_ret
    exact ⟨rfl, left_end hz kz kz0 kf0 (newNat_of_drewN hN0) (below_of_drewN hbel) (by rw [if_neg (by omega)]) zb⟩

end Go.Proofs.Ybulkblc
