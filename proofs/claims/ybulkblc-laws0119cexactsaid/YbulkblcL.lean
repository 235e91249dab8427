import Derived.Test.YbulkblcK
namespace Go.Proofs.Ybulkblc
open Go.RowKit

/-- What the law has laid: the rule's box R (its cells rv), the two rates' boxes P and C, and the two numbers that those lead to. -/
structure Laid2 (w : World) (R P C : Nat) (rv : Array Value) (k2 k3 : Nat) (pv cv : Int) : Prop where
  hR : R < w.heap.size
  hP : P < w.heap.size
  hC : C < w.heap.size
  r : ∀ o, w.cell? ⟨R, o, none⟩ = rv[o]?
  p : ∀ o, w.cell? ⟨P, o, none⟩ = (rateV k2)[o]?
  c : ∀ o, w.cell? ⟨C, o, none⟩ = (rateV k3)[o]?
  i2 : IsInt w.heap.size w k2 pv
  i3 : IsInt w.heap.size w k3 cv

theorem Laid2.below {w w' : World} {R P C k2 k3 : Nat} {rv : Array Value} {p c : Int} (h : Laid2 w R P C rv k2 k3 p c) (hb : Below w.heap.size w w') : Laid2 w' R P C rv k2 k3 p c :=
  ⟨Nat.lt_of_lt_of_le h.hR hb.size, Nat.lt_of_lt_of_le h.hP hb.size, Nat.lt_of_lt_of_le h.hC hb.size,
   fun o => by rw [hb.cell (p := ⟨R, o, none⟩) h.hR]; exact h.r o, fun o => by rw [hb.cell (p := ⟨P, o, none⟩) h.hP]; exact h.p o, fun o => by rw [hb.cell (p := ⟨C, o, none⟩) h.hC]; exact h.c o,
   (h.i2.below hb).mono hb.size, (h.i3.below hb).mono hb.size⟩

/-- The third box laid: all that has been laid, together. 'u': the world behind the rule's box (and its number); w2: behind the second NewInt's number; w3: behind the third's. -/
theorem laid2_mk {u w2 w3 : World} {R k2 k3 : Nat} {rv : Array Value} {p c : Int} (hR : R < u.heap.size) (hr : ∀ o, u.cell? ⟨R, o, none⟩ = rv[o]?) (b2 : Below u.heap.size u w2) (i2 : IsInt w2.heap.size w2 k2 p)
    (b3 : Below (w2.alloc (.cells (rateV k2) 32)).heap.size (w2.alloc (.cells (rateV k2) 32)) w3) (i3 : IsInt w3.heap.size w3 k3 c) :
    Laid2 (w3.alloc (.cells (rateV k3) 32)) R w2.heap.size w3.heap.size rv k2 k3 p c ∧ Below u.heap.size u (w3.alloc (.cells (rateV k3) 32)) := by
  have z2 : w2.heap.size < w3.heap.size := by have := b3.size; simp at this; omega
  have zu : u.heap.size ≤ w2.heap.size := b2.size
  have B23 : Below w2.heap.size w2 w3 := ((Below.refl _ _).alloc (Nat.le_refl _) _).trans (b3.mono (by simp))
  have bb : Below w3.heap.size w3 (w3.alloc (.cells (rateV k3) 32)) := (Below.refl _ _).alloc (Nat.le_refl _) _
  have Bu3 : Below u.heap.size u w3 := b2.trans (B23.mono zu)
  have BuW : Below u.heap.size u (w3.alloc (.cells (rateV k3) 32)) := Bu3.trans (bb.mono (by omega))
  refine ⟨⟨by simp; omega, by simp; omega, by simp, fun o => ?_, fun o => ?_, fun o => by simp, ?_, ?_⟩, BuW⟩
  · rw [BuW.cell (p := ⟨R, o, none⟩) hR]; exact hr o
  · rw [bb.cell (p := ⟨w2.heap.size, o, none⟩) z2, b3.cell (p := ⟨w2.heap.size, o, none⟩) (by simp)]; simp
  · exact ((((i2.below B23).mono (by omega : w2.heap.size ≤ w3.heap.size)).below bb).mono bb.size)
  · exact (i3.below bb).mono bb.size

set_option maxHeartbeats 1000000 in
theorem exact_no (a1 a2 a3 : Int) (h3 : -2147483648 ≤ a2) (h4 : a2 ≤ 2147483647) (h5 : -2147483648 ≤ a3) (h6 : a3 ≤ 2147483647) (w : World) :
    Calls Yba.prog 3 #[.bool false, .int .i32 a1, .int .i32 a2, .int .i32 a3] w fun e w' => e = .returned (.bool true) ∧ Below w.heap.size w w' := by
  go_enter Yba.func3, Yba.ntmps3
  go_wp2_with (fail)
  refine (newInt_any a2 (by omega) (by omega) _).mono ?_
  rintro e w2 ⟨k2, rfl, hk2, i2, b2⟩
  have Hi2 : Hid (IsInt w2.heap.size w2 k2 a2) := i2
  have Hb2 : Hid (Below (w.alloc (.cells #[.pointer none, .pointer none, .pointer none] 25)).heap.size (w.alloc (.cells #[.pointer none, .pointer none, .pointer none] 25)) w2) := b2
  have zu : w.heap.size < w2.heap.size := by have := b2.size; simp at this; omega
  clear i2 b2 hk2
  go_wp2_with (fail)
  refine (newInt_any a3 (by omega) (by omega) _).mono ?_
  rintro e w3 ⟨k3, rfl, hk3, i3, b3⟩
  obtain ⟨L, Bw⟩ := laid2_mk (R := w.heap.size) (rv := #[.pointer none, .pointer none, .pointer none]) (by simp) (fun o => by simp) Hb2.out Hi2.out b3 i3
  have HL : Hid (Laid2 (w3.alloc (.cells (rateV k3) 32)) w.heap.size w2.heap.size w3.heap.size #[.pointer none, .pointer none, .pointer none] k2 k3 a2 a3) := L
  have HB : Hid (Below w.heap.size w (w3.alloc (.cells (rateV k3) 32))) := ((Below.refl _ _).alloc (Nat.le_refl _) _).trans (Bw.mono (by simp))
  have z3 := b3.size
  have z23 : w2.heap.size < w3.heap.size := by simp at z3; omega
  have zu3 : w.heap.size < w3.heap.size := by omega
  have bb : Below w3.heap.size w3 (w3.alloc (.cells (rateV k3) 32)) := (Below.refl _ _).alloc (Nat.le_refl _) _
  have r3 : ∀ o, w3.cell? ⟨w.heap.size, o, none⟩ = #[Value.pointer none, .pointer none, .pointer none][o]? := fun o => by rw [← bb.cell (p := ⟨w.heap.size, o, none⟩) zu3]; exact L.r o
  have p3 : ∀ o, w3.cell? ⟨w2.heap.size, o, none⟩ = (rateV k2)[o]? := fun o => by rw [← bb.cell (p := ⟨w2.heap.size, o, none⟩) z23]; exact L.p o
  simp only [rateV] at p3
  clear L Bw Hb2 Hi2 b3 i3 bb z3 hk3
  go_wp2_with (fail)
  refine (vm_nil _ k2 k3).mono ?_
  rintro e w4 ⟨rfl, b4⟩
  have HL4 : Hid (Laid2 w4 w.heap.size w2.heap.size w3.heap.size #[.pointer none, .pointer none, .pointer none] k2 k3 a2 a3) := HL.out.below b4
  have HB4 : Hid (Below w.heap.size w w4) := HB.out.trans (b4.mono (HB.out.size))
  have p4 := HL4.out.p
  have c4 := HL4.out.c
  simp only [rateV] at p4 c4
  clear b4 HL HB r3 p3
  go_wp2_with (fail)
  refine (Int64_any _ _ k2 a2 HL4.out.i2 h3 h4).mono ?_
  rintro e w5 ⟨rfl, rfl⟩
  go_wp2_with (fail)
  refine (Int64_any _ _ k3 a3 HL4.out.i3 h5 h6).mono ?_
  rintro e w6 ⟨rfl, rfl⟩
  go_wp2
  go_ret
  exact ⟨rfl, HB4.out⟩
end Go.Proofs.Ybulkblc
