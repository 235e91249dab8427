import Derived.Test.YbulkblcL
namespace Go.Proofs.Ybulkblc
open Go.RowKit

set_option maxHeartbeats 2000000 in
theorem exact_yes (a1 a2 a3 : Int) (h1 : -2147483648 ≤ a1) (h2 : a1 ≤ 2147483647) (h3 : -2147483648 ≤ a2) (h4 : a2 ≤ 2147483647) (h5 : -2147483648 ≤ a3) (h6 : a3 ≤ 2147483647) (w : World) :
    Calls Yba.prog 3 #[.bool true, .int .i32 a1, .int .i32 a2, .int .i32 a3] w fun e w' => e = .returned (.bool true) ∧ Below w.heap.size w w' := by
  go_enter Yba.func3, Yba.ntmps3
  go_wp2_with (fail)
  refine (newInt_any a1 (by omega) (by omega) _).mono ?_
  rintro e w1 ⟨k1, rfl, hk1, i1, b1⟩
  have z1 : w.heap.size < w1.heap.size := by have := b1.size; simp at this; omega
  have hk1' : w.heap.size < k1 := by simp at hk1; omega
  have c1 : ∀ o, w1.cell? ⟨w.heap.size, o, none⟩ = #[Value.pointer none, .pointer none, .pointer none][o]? := fun o => by rw [b1.cell (p := ⟨w.heap.size, o, none⟩) (by simp)]; simp
  have f1 : w1.frozen? ⟨w.heap.size, 2, none⟩ = false := by rw [b1.frozen (p := ⟨w.heap.size, 2, none⟩) (by simp)]; simp [go_sem]
  have cU : ∀ o, (w1.setCell ⟨w.heap.size, 2, none⟩ (.pointer (some ⟨k1, 0, none⟩))).cell? ⟨w.heap.size, o, none⟩ = (ruleV k1)[o]? := fun o => by
    by_cases ho : o = 2
    · subst ho
      rw [World.cell?_setCell_same (u := .pointer none) _ _ _ (c1 2)]; rfl
    · rw [World.cell?_setCell_other _ _ _ _ (by intro e; apply ho; cases e; rfl), c1 o]
      match o, ho with
      | 0, _ => rfl
      | 1, _ => rfl
      | (n + 3), _ => rfl
  have sU : (w1.setCell ⟨w.heap.size, 2, none⟩ (.pointer (some ⟨k1, 0, none⟩))).heap.size = w1.heap.size := by simp [World.setCell]
  have HiU : Hid (IsInt w1.heap.size (w1.setCell ⟨w.heap.size, 2, none⟩ (.pointer (some ⟨k1, 0, none⟩))) k1 a1) := by
    obtain ⟨q1, ⟨cs, q2⟩, q3, a, l, c, q4, q5⟩ := i1
    refine ⟨q1, ⟨cs, ?_⟩, ?_, a, l, c, ?_, ?_⟩
    · rw [Below.heap_setCell _ _ _ _ (show k1 ≠ w.heap.size by omega)]; exact q2
    · rw [World.cell?_setCell_far _ ⟨w.heap.size, 2, none⟩ _ _ (show w.heap.size ≠ k1 by omega)]; exact q3
    · rw [World.cell?_setCell_far _ ⟨w.heap.size, 2, none⟩ _ _ (show w.heap.size ≠ k1 by omega)]; exact q4
    · rcases q5 with h | ⟨p1, p2, p3, p4, b', p5, p6, p7⟩
      · exact .inl h
      · refine .inr ⟨p1, p2, p3, p4, b', p5, p6, ?_⟩
        have hne : w.heap.size ≠ b' := by
          intro e; subst e
          have := c1 0
          rw [p7] at this
          cases this
        rw [World.cell?_setCell_far _ ⟨w.heap.size, 2, none⟩ _ _ hne]; exact p7
  have HbU : Hid (Below w.heap.size w (w1.setCell ⟨w.heap.size, 2, none⟩ (.pointer (some ⟨k1, 0, none⟩)))) := (((Below.refl _ _).alloc (Nat.le_refl _) _).trans (b1.mono (by simp))).setCell (p := ⟨w.heap.size, 2, none⟩) (Nat.le_refl _) _
  have HcU : Hid (∀ o, (w1.setCell ⟨w.heap.size, 2, none⟩ (.pointer (some ⟨k1, 0, none⟩))).cell? ⟨w.heap.size, o, none⟩ = (ruleV k1)[o]?) := cU
  have HsU : Hid ((w1.setCell ⟨w.heap.size, 2, none⟩ (.pointer (some ⟨k1, 0, none⟩))).heap.size = w1.heap.size) := sU
  clear cU sU i1 b1 hk1 hk1'
  go_wp2_with (fail)
  refine (newInt_any a2 (by omega) (by omega) _).mono ?_
  rintro e w2 ⟨k2, rfl, hk2, i2, b2⟩
  have Hi2 : Hid (IsInt w2.heap.size w2 k2 a2) := i2
  have Hb2 : Hid (Below (w1.setCell ⟨w.heap.size, 2, none⟩ (.pointer (some ⟨k1, 0, none⟩))).heap.size (w1.setCell ⟨w.heap.size, 2, none⟩ (.pointer (some ⟨k1, 0, none⟩))) w2) := b2
  have zu : w.heap.size < w2.heap.size := by have := b2.size; rw [HsU.out] at this; omega
  clear i2 b2 hk2 c1 f1
  go_wp2_with (fail)
  refine (newInt_any a3 (by omega) (by omega) _).mono ?_
  rintro e w3 ⟨k3, rfl, hk3, i3, b3⟩
  obtain ⟨L, Bw⟩ := laid2_mk (R := w.heap.size) (rv := ruleV k1) (by rw [HsU.out]; exact z1) HcU.out Hb2.out Hi2.out b3 i3
  have HL : Hid (Laid2 (w3.alloc (.cells (rateV k3) 32)) w.heap.size w2.heap.size w3.heap.size (ruleV k1) k2 k3 a2 a3) := L
  have HB : Hid (Below w.heap.size w (w3.alloc (.cells (rateV k3) 32))) := HbU.out.trans (Bw.mono (by rw [HsU.out]; omega))
  have HT : Hid (IsInt (w3.alloc (.cells (rateV k3) 32)).heap.size (w3.alloc (.cells (rateV k3) 32)) k1 a1) := (HiU.out.below (by rw [← HsU.out]; exact Bw)).mono (by have := Bw.size; rw [HsU.out] at this; exact this)
  have z3 := b3.size
  have z23 : w2.heap.size < w3.heap.size := by simp at z3; omega
  have zu3 : w.heap.size < w3.heap.size := by omega
  have bb : Below w3.heap.size w3 (w3.alloc (.cells (rateV k3) 32)) := (Below.refl _ _).alloc (Nat.le_refl _) _
  have r3 : ∀ o, w3.cell? ⟨w.heap.size, o, none⟩ = (ruleV k1)[o]? := fun o => by rw [← bb.cell (p := ⟨w.heap.size, o, none⟩) zu3]; exact L.r o
  have p3 : ∀ o, w3.cell? ⟨w2.heap.size, o, none⟩ = (rateV k2)[o]? := fun o => by rw [← bb.cell (p := ⟨w2.heap.size, o, none⟩) z23]; exact L.p o
  simp only [rateV, ruleV] at p3 r3
  clear L Bw Hb2 Hi2 b3 i3 bb z3 hk3 HbU HcU HsU HiU
  go_wp2_with (fail)
  refine (vm_any _ k1 k2 k3 a1 a2 a3 HT.out HL.out.i2 HL.out.i3 (by omega) (by omega) (by omega) (by omega)).mono ?_
  rintro e w4 ⟨rfl, b4⟩
  have HL4 : Hid (Laid2 w4 w.heap.size w2.heap.size w3.heap.size (ruleV k1) k2 k3 a2 a3) := HL.out.below b4
  have HB4 : Hid (Below w.heap.size w w4) := HB.out.trans (b4.mono (HB.out.size))
  have HT4 : Hid (IsInt w4.heap.size w4 k1 a1) := (HT.out.below b4).mono b4.size
  have r4 := HL4.out.r
  have p4 := HL4.out.p
  have c4 := HL4.out.c
  simp only [rateV, ruleV] at r4 p4 c4
  clear b4 HL HB HT r3 p3
  go_wp2_with (fail)
  refine (Int64_any _ _ k2 a2 HL4.out.i2 h3 h4).mono ?_
  rintro e w5 ⟨rfl, rfl⟩
  go_wp2_with (fail)
  refine (Int64_any _ _ k3 a3 HL4.out.i3 h5 h6).mono ?_
  rintro e w6 ⟨rfl, rfl⟩
  go_wp2_with (fail)
  refine (Int64_any _ _ k1 a1 HT4.out h1 h2).mono ?_
  rintro e w7 ⟨rfl, rfl⟩
  by_cases hlt : a3 - a2 < 0
  · have e1 : ((a3 - a2).natAbs : Int) = -(a3 - a2) := by omega
    rw [e1]
    clear e1
    go_wp2
    go_ret
    exact ⟨by simp, HB4.out⟩
  · have e1 : ((a3 - a2).natAbs : Int) = a3 - a2 := by omega
    rw [e1]
    clear e1
    go_wp2
    go_ret
    exact ⟨by simp, HB4.out⟩
end Go.Proofs.Ybulkblc
