import Derived.Test.YbulkblcI
namespace Go.Proofs.Ybulkblc
open Go.RowKit

/-- What the law has laid: the rule's box R, the two rates' boxes P and C, and the three numbers that they lead to. -/
structure Laid (w : World) (R P C k1 k2 k3 : Nat) (tv pv cv : Int) : Prop where
  hR : R < w.heap.size
  hP : P < w.heap.size
  hC : C < w.heap.size
  r : ∀ o, w.cell? ⟨R, o, none⟩ = (ruleV k1)[o]?
  p : ∀ o, w.cell? ⟨P, o, none⟩ = (rateV k2)[o]?
  c : ∀ o, w.cell? ⟨C, o, none⟩ = (rateV k3)[o]?
  i1 : IsInt w.heap.size w k1 tv
  i2 : IsInt w.heap.size w k2 pv
  i3 : IsInt w.heap.size w k3 cv

theorem Laid.below {w w' : World} {R P C k1 k2 k3 : Nat} {t p c : Int} (h : Laid w R P C k1 k2 k3 t p c) (hb : Below w.heap.size w w') : Laid w' R P C k1 k2 k3 t p c :=
  ⟨Nat.lt_of_lt_of_le h.hR hb.size, Nat.lt_of_lt_of_le h.hP hb.size, Nat.lt_of_lt_of_le h.hC hb.size,
   fun o => by rw [hb.cell (p := ⟨R, o, none⟩) h.hR]; exact h.r o, fun o => by rw [hb.cell (p := ⟨P, o, none⟩) h.hP]; exact h.p o, fun o => by rw [hb.cell (p := ⟨C, o, none⟩) h.hC]; exact h.c o,
   (h.i1.below hb).mono hb.size, (h.i2.below hb).mono hb.size, (h.i3.below hb).mono hb.size⟩

set_option maxHeartbeats 1000000 in
theorem sym (a0 a1 a2 : Int) (h1 : -9223372036854775808 ≤ a0) (h2 : a0 ≤ 9223372036854775807) (h3 : -9223372036854775808 ≤ a1) (h4 : a1 ≤ 9223372036854775807) (h5 : -9223372036854775808 ≤ a2) (h6 : a2 ≤ 9223372036854775807) (w : World) :
    Calls Yba.prog 4 #[.int .i64 a0, .int .i64 a1, .int .i64 a2] w fun e w' => e = .returned (.bool true) ∧ Below w.heap.size w w' := by
  have e1 : ((a1 - a2).natAbs : Int) = ((a2 - a1).natAbs : Int) := by omega
  have e2 : ((a1 - a1).natAbs : Int) = 0 := by omega
  have He1 : Hid (decide (a0 < ((a1 - a2).natAbs : Int)) = decide (a0 < ((a2 - a1).natAbs : Int))) := by show _ = _; rw [e1]
  have He2 : Hid (decide (a0 < ((a1 - a1).natAbs : Int)) = decide (a0 < 0)) := by show _ = _; rw [e2]
  clear e1 e2
  go_enter Yba.func4, Yba.ntmps4
  go_wp2_with (fail)
  refine (newInt_any a0 h1 h2 _).mono ?_
  rintro e w1 ⟨k1, rfl, hk1, i1, b1⟩
  have Hi1 : Hid (IsInt w1.heap.size w1 k1 a0) := i1
  have Hb1 : Hid (Below w.heap.size w w1) := b1
  clear i1 b1 hk1
  go_wp2_with (fail)
  refine (newInt_any a1 h3 h4 _).mono ?_
  rintro e w2 ⟨k2, rfl, hk2, i2, b2⟩
  have Hi2 : Hid (IsInt w2.heap.size w2 k2 a1) := i2
  have Hb2 : Hid (Below (w1.alloc (.cells (ruleV k1) 25)).heap.size (w1.alloc (.cells (ruleV k1) 25)) w2) := b2
  clear i2 b2 hk2
  go_wp2_with (fail)
  refine (newInt_any a2 h5 h6 _).mono ?_
  rintro e w3 ⟨k3, rfl, hk3, i3, b3⟩
  have Hi3 : Hid (IsInt w3.heap.size w3 k3 a2) := i3
  have Hb3 : Hid (Below (w2.alloc (.cells (rateV k2) 32)).heap.size (w2.alloc (.cells (rateV k2) 32)) w3) := b3
  clear i3 b3 hk3
  -- what has been laid, before the third box
  have z1 : w1.heap.size < w2.heap.size := by have := Hb2.out.size; simp at this; omega
  have z2 : w2.heap.size < w3.heap.size := by have := Hb3.out.size; simp at this; omega
  have B23 : Below w2.heap.size w2 w3 := ((Below.refl _ _).alloc (Nat.le_refl _) _).trans (Hb3.out.mono (by simp))
  have B13 : Below w1.heap.size w1 w3 := (((Below.refl _ _).alloc (Nat.le_refl _) _).trans (Hb2.out.mono (by simp))).trans (B23.mono (by omega))
  have r3 : ∀ o, w3.cell? ⟨w1.heap.size, o, none⟩ = (ruleV k1)[o]? := fun o => by
    rw [B23.cell (p := ⟨w1.heap.size, o, none⟩) z1, Hb2.out.cell (p := ⟨w1.heap.size, o, none⟩) (by simp)]; simp
  have p3 : ∀ o, w3.cell? ⟨w2.heap.size, o, none⟩ = (rateV k2)[o]? := fun o => by
    rw [Hb3.out.cell (p := ⟨w2.heap.size, o, none⟩) (by simp)]; simp
  have HL : Hid (Laid (w3.alloc (.cells (rateV k3) 32)) w1.heap.size w2.heap.size w3.heap.size k1 k2 k3 a0 a1 a2) := by
    have bb : Below w3.heap.size w3 (w3.alloc (.cells (rateV k3) 32)) := (Below.refl _ _).alloc (Nat.le_refl _) _
    refine ⟨by simp; omega, by simp; omega, by simp, fun o => ?_, fun o => ?_, fun o => by simp, ?_, ?_, ?_⟩
    · rw [bb.cell (p := ⟨w1.heap.size, o, none⟩) (by simp; omega)]; exact r3 o
    · rw [bb.cell (p := ⟨w2.heap.size, o, none⟩) (by simp; omega)]; exact p3 o
    · exact ((((Hi1.out.below B13).mono (by omega : w1.heap.size ≤ w3.heap.size)).below bb).mono bb.size)
    · exact ((((Hi2.out.below B23).mono (by omega : w2.heap.size ≤ w3.heap.size)).below bb).mono bb.size)
    · exact (Hi3.out.below bb).mono bb.size
  have HB : Hid (Below w.heap.size w (w3.alloc (.cells (rateV k3) 32))) := by
    have s1 := Hb1.out.size
    exact (Hb1.out.trans (B13.mono s1)).alloc (by omega) _
  clear Hi1 Hb1 Hi2 Hb2 Hi3 Hb3 B23 B13
  simp only [ruleV, rateV] at r3 p3
  have z13 : w1.heap.size < w3.heap.size := by omega
  go_wp2_with (fail)
  refine (vm_any _ k1 k2 k3 a0 a1 a2 HL.out.i1 HL.out.i2 HL.out.i3 h3 h4 h5 h6).mono ?_
  rintro e w4 ⟨rfl, b4⟩
  have HL4 : Hid (Laid w4 w1.heap.size w2.heap.size w3.heap.size k1 k2 k3 a0 a1 a2) := HL.out.below b4
  have HB4 : Hid (Below w.heap.size w w4) := HB.out.trans (b4.mono (HB.out.size))
  have r4 := HL4.out.r
  have p4 := HL4.out.p
  have c4 := HL4.out.c
  simp only [ruleV, rateV] at r4 p4 c4
  clear b4 HL HB r3 p3
  go_wp2_with (fail)
  refine (vm_any _ k1 k3 k2 a0 a2 a1 HL4.out.i1 HL4.out.i3 HL4.out.i2 h5 h6 h3 h4).mono ?_
  rintro e w5 ⟨rfl, b5⟩
  have HL5 : Hid (Laid w5 w1.heap.size w2.heap.size w3.heap.size k1 k2 k3 a0 a1 a2) := HL4.out.below b5
  have HB5 : Hid (Below w.heap.size w w5) := HB4.out.trans (b5.mono (HB4.out.size))
  have r5 := HL5.out.r
  have p5 := HL5.out.p
  have c5 := HL5.out.c
  simp only [ruleV, rateV] at r5 p5 c5
  clear b5 HL4 HB4 r4 p4 c4
  rw [He1.out]
  go_wp2_with (fail)
  refine (vm_any _ k1 k2 k2 a0 a1 a1 HL5.out.i1 HL5.out.i2 HL5.out.i2 h3 h4 h3 h4).mono ?_
  rintro e w6 ⟨rfl, b6⟩
  have HB6 : Hid (Below w.heap.size w w6) := HB5.out.trans (b6.mono (HB5.out.size))
  clear b6 HL5 HB5 r5 p5 c5
  rw [He2.out]
  have q : ∀ b : Bool, (b == b) = true := fun b => by cases b <;> rfl
  go_wp2
  go_ret
  exact ⟨rfl, HB6.out⟩
end Go.Proofs.Ybulkblc
