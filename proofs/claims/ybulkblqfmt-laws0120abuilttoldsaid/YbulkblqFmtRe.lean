import Derived.Test.YbulkblqFmtRd
namespace Go.Proofs.YbulkblqFmt
open Go.RowKit
theorem two_set (u : World) (g : Nat) (x y a b : Value) (h0 : u.cell? ⟨g, 0, none⟩ = some a) (h1 : u.cell? ⟨g, 1, none⟩ = some b) :
    (u.setCell ⟨g, 0, none⟩ x).cell? ⟨g, 0, none⟩ = some x ∧ ((u.setCell ⟨g, 0, none⟩ x).setCell ⟨g, 1, none⟩ y).cell? ⟨g, 1, none⟩ = some y :=
  ⟨World.cell?_setCell_same _ _ _ h0, World.cell?_setCell_same (u := b) _ _ _ (by rw [World.cell?_setCell_other _ _ _ _ (by simp)]; exact h1)⟩
theorem belowA {a w : World} (h : Below a.heap.size a w) (o : Obj) : Below a.heap.size a (w.alloc o) := h.alloc h.size o
theorem belowN {B : Nat} {a w : World} (h : Below B a w) (q : Nat) : Below B a (w.drewN q) := ⟨h.os, h.tape, h.output, h.size, h.block⟩

set_option maxRecDepth 100000 in
set_option maxHeartbeats 200000 in
/-- 'readPointer'. -/
theorem read_walk (b o nd cap at_ : Nat) (fz : Nat → Int) (w : World) (h : ByteRow w b o (o + nd) fz) (hz : ∀ j, 0 ≤ fz j ∧ fz j ≤ 255) (hat : at_ + 3 < nd) (hnd : nd ≤ 4096) (hcap : nd ≤ cap) :
    Calls Ybaf.prog 14 #[.slice (some ⟨b, o, none⟩) nd cap, .int .i64 at_] w fun e w' => e = .returned (.agg #[.int .i64 (word fz (o + at_)), .int .i64 (word fz (o + (at_ + 2)))]) ∧ Below w.heap.size w w' := by
  have i1 : (at_ : Int) ≤ (nd : Int) := by omega
  have i2 : (at_ : Int) + 2 ≤ (nd : Int) := by omega
  have i3 : (nd : Int) ≤ (cap : Int) := by omega
  have i4 : (0 : Int) ≤ (at_ : Int) + 2 := by omega
  have i5 : IntKind.i64.wrap ((at_ : Int) + 2) = (at_ : Int) + 2 := by
    simp only [IntKind.wrap, IntKind.bits, IntKind.signed]
    simp
    omega
  have i6 : ((at_ : Int) + 2).toNat = at_ + 2 := by omega
  have wb1 := word_bounds fz hz (o + at_)
  have wb2 := word_bounds fz hz (o + (at_ + 2))
  obtain ⟨wb3, wb4⟩ := wb1
  obtain ⟨wb5, wb6⟩ := wb2
  have wr1 : IntKind.i64.wrap (word fz (o + at_)) = word fz (o + at_) := by
    simp only [IntKind.wrap, IntKind.bits, IntKind.signed]
    simp
    omega
  have wr2 : IntKind.i64.wrap (word fz (o + (at_ + 2))) = word fz (o + (at_ + 2)) := by
    simp only [IntKind.wrap, IntKind.bits, IntKind.signed]
    simp
    omega
  have n1 : ¬ cap = at_ := by omega
  have n2 : ¬ cap = at_ + 2 := by omega
  have hb : b ≠ w.heap.size := by have := h.1; omega
  have hb' : w.heap.size ≠ b := fun e => hb e.symm
  have Hz : Hid (∀ j, 0 ≤ fz j ∧ fz j ≤ 255) := hz
  clear hz
  go_enter Ybaf.func14, Ybaf.ntmps14
  go_wp2_with (fail)
  go_region_held3 (fun _ => True) (trivial)
    (first
      | (go_at_call 21; go_must (refine (u16_row b _ _ _ o (o + nd) fz _ ?_ (by omega) (by omega) Hz.out (by omega)).mono ?_); go_must (with_reducible (repeat' (first | exact h | apply ByteRow.drewN | apply ByteRow.drew | apply ByteRow.alloc))); go_must (rintro e w' ⟨rfl, q, rfl⟩)))
  go_wp2
  rename_i q1 hh
  have t1 : (((((w.alloc (.cells #[.int .i64 0, .int .i64 0] 56)).alloc (.cells #[] 69)).drewN (1 + q1)).alloc (.cells #[] 69)).drewN q).cell? ⟨w.heap.size, 0, none⟩ = some (.int .i64 0) := by simp [go_sem]
  have t2 : (((((w.alloc (.cells #[.int .i64 0, .int .i64 0] 56)).alloc (.cells #[] 69)).drewN (1 + q1)).alloc (.cells #[] 69)).drewN q).cell? ⟨w.heap.size, 1, none⟩ = some (.int .i64 0) := by simp [go_sem]
  have t3 := two_set _ _ (.int .i64 (word fz (o + at_))) (.int .i64 (word fz (o + (at_ + 2)))) _ _ t1 t2
  have t4 := t3.1
  have t5 := t3.2
  refine bodyPost_ret (v := .agg #[.int .i64 (word fz (o + at_)), .int .i64 (word fz (o + (at_ + 2)))]) (by simp [results, Ybaf.results14, go_sem, t4, t5]) rfl ?_
  refine ⟨rfl, ?_⟩
  refine ((belowN (belowA (belowN (belowA (belowA (Below.refl _ _) _) _) _) _) _).setCell (p := ⟨w.heap.size, 0, none⟩) (Nat.le_refl _) _).setCell (p := ⟨w.heap.size, 1, none⟩) (Nat.le_refl _) _
end Go.Proofs.YbulkblqFmt
