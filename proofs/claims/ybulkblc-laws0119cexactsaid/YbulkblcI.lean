import Derived.Test.YbulkblcA
import Derived.Test.YbulkblcH
namespace Go.Proofs.Ybulkblc
open Go.RowKit

theorem heap_new (w : World) (o : Obj) : (w.alloc o).heap[w.heap.size]? = some o := by
  show (w.heap.push o)[w.heap.size]? = _
  simp
theorem size_alloc (w : World) (o : Obj) : (w.alloc o).heap.size = w.heap.size + 1 := by simp

/-- math/big.NewInt. -/
theorem newInt_any (x : Int) (h1 : -9223372036854775808 ≤ x) (h2 : x ≤ 9223372036854775807) (w : World) :
    Calls Yba.prog 5 #[.int .i64 x] w fun e w' => ∃ k, e = .returned (.pointer (some ⟨k, 0, none⟩)) ∧ w.heap.size ≤ k ∧ IsInt w'.heap.size w' k x ∧ Below w.heap.size w w' := by
  by_cases hz : x = 0
  · subst hz
    refine (newInt_zero w).mono ?_
    rintro e w' ⟨rfl, rfl⟩
    exact ⟨_, rfl, Nat.le_refl _, ⟨by simp, ⟨_, heap_new w _⟩, by simp, none, 0, 0, by simp, .inl ⟨rfl, rfl⟩⟩, (Below.refl _ _).alloc (Nat.le_refl _) _⟩
  have hbel : ∀ o o', Below w.heap.size w ((w.alloc o).alloc o') := fun o o' => ((Below.refl _ _).alloc (Nat.le_refl _) _).alloc (by simp) _
  by_cases hp : 0 < x
  · refine (newInt_pos x hp h2 w).mono ?_
    rintro e w' ⟨rfl, rfl⟩
    refine ⟨_, rfl, by omega, ⟨by simp, ⟨_, by rw [← size_alloc w (.cells #[.int .u64 x] 39)]; exact heap_new _ _⟩, ?_, some ⟨w.heap.size, 0, none⟩, 1, 1, ?_, .inr ⟨by omega, by omega, rfl, by omega, _, rfl, by simp; omega, ?_⟩⟩, hbel _ _⟩
    · rw [decide_eq_false (by omega)]; simp
    · simp
    · rw [show (x.natAbs : Int) = x by omega]; simp
  · refine (newInt_neg x (by omega) h1 w).mono ?_
    rintro e w' ⟨rfl, rfl⟩
    refine ⟨_, rfl, by omega, ⟨by simp, ⟨_, by rw [← size_alloc w (.cells #[.int .u64 (-x)] 39)]; exact heap_new _ _⟩, ?_, some ⟨w.heap.size, 0, none⟩, 1, 1, ?_, .inr ⟨by omega, by omega, rfl, by omega, _, rfl, by simp; omega, ?_⟩⟩, hbel _ _⟩
    · rw [decide_eq_true (by omega)]; simp
    · simp
    · rw [show (x.natAbs : Int) = -x by omega]; simp

def ruleV (T : Nat) : Array Value := #[.pointer none, .pointer none, .pointer (some ⟨T, 0, none⟩)]
def rateV (p : Nat) : Array Value := #[.string { data := #[] }, .int .u64 0, .int .i64 0, .pointer none, .string { data := #[] }, .pointer none, .string { data := #[] }, .int .i64 0, .pointer (some ⟨p, 0, none⟩), .pointer none, .pointer none, .pointer none]

/-- Behind Abs. -/
theorem left_abs {W w5 : World} {z : Nat} {b : Bool} {M : Int} (h : Left0 W w5 z b M) :
    (∃ cs, (w5.setCell ⟨z, 0, none⟩ (.bool false)).heap[z]? = some (.cells cs 42 (0, 0))) ∧ (w5.setCell ⟨z, 0, none⟩ (.bool false)).cell? ⟨z, 0, none⟩ = some (.bool false) ∧
    (∃ a l c, (w5.setCell ⟨z, 0, none⟩ (.bool false)).cell? ⟨z, 1, none⟩ = some (.slice a l c) ∧ IsNat (w5.setCell ⟨z, 0, none⟩ (.bool false)).heap.size (w5.setCell ⟨z, 0, none⟩ (.bool false)) a l c M) ∧ Below z W (w5.setCell ⟨z, 0, none⟩ (.bool false)) := by
  obtain ⟨h0, ⟨a, l, c, h1, hN⟩, hf, hs, hsz, hb⟩ := h
  have e1 : (w5.setCell ⟨z, 0, none⟩ (.bool false)).heap.size = w5.heap.size := by simp [World.setCell]
  refine ⟨shape_setCell hs, by simp [go_sem, h0], ⟨a, l, c, by simp [go_sem, h1], ?_⟩, hb.setCell (p := ⟨z, 0, none⟩) (Nat.le_refl _) _⟩
  rw [e1]
  rcases hN with h | ⟨p1, p2, p3, p4, b', p5, p6, p7⟩
  · exact .inl h
  · refine .inr ⟨p1, p2, p3, p4, b', p5, p6, ?_⟩
    have hne : z ≠ b' := by intro e; subst e; rw [h0] at p7; cases p7
    rw [World.cell?_setCell_far _ ⟨z, 0, none⟩ _ _ hne]
    exact p7

theorem cmpZ_pos (M t : Int) : decide (0 < cmpZ M t) = decide (t < M) := by
  unfold cmpZ
  by_cases h : M < t
  · rw [if_pos h]; simp; omega
  · rw [if_neg h]
    by_cases h' : t < M
    · rw [if_pos h']; simp [h']
    · rw [if_neg h']; simp [h']

set_option maxHeartbeats 1000000 in
/-- Rule.volumeMoved. -/
theorem vm_any (w : World) (T p c : Nat) (t pv cv : Int) (hT : IsInt w.heap.size w T t) (hp : IsInt w.heap.size w p pv) (hc : IsInt w.heap.size w c cv)
    (p1 : -9223372036854775808 ≤ pv) (p2 : pv ≤ 9223372036854775807) (c1 : -9223372036854775808 ≤ cv) (c2 : cv ≤ 9223372036854775807) :
    Calls Yba.prog 6 #[.agg (ruleV T), .agg (rateV p), .agg (rateV c)] w fun e w' => e = .returned (.bool (decide (t < ((cv - pv).natAbs : Int)))) ∧ Below w.heap.size w w' := by
  rw [← cmpZ_pos]
  unfold ruleV rateV
  have tT := hT.1
  have hW : ∀ o1 o2 o3 o4 : Obj, Hid (Below w.heap.size w ((((w.alloc o1).alloc o2).alloc o3).alloc o4)) := fun o1 o2 o3 o4 => (((((Below.refl _ _).alloc (Nat.le_refl _) _).alloc (by simp) _).alloc (by simp; omega) _).alloc (by simp; omega) _)
  have Hc : ∀ o1 o2 o3 o4 : Obj, Hid (IsInt (w.heap.size + 1 + 1 + 1) ((((w.alloc o1).alloc o2).alloc o3).alloc o4) c cv) := fun o1 o2 o3 o4 => (hc.below (hW o1 o2 o3 o4).out).mono (by omega)
  have Hp : ∀ o1 o2 o3 o4 : Obj, Hid (IsInt (w.heap.size + 1 + 1 + 1) ((((w.alloc o1).alloc o2).alloc o3).alloc o4) p pv) := fun o1 o2 o3 o4 => (hp.below (hW o1 o2 o3 o4).out).mono (by omega)
  have HT : ∀ o1 o2 o3 o4 : Obj, Hid (IsInt (w.heap.size + 1 + 1 + 1) ((((w.alloc o1).alloc o2).alloc o3).alloc o4) T t) := fun o1 o2 o3 o4 => (hT.below (hW o1 o2 o3 o4).out).mono (by omega)
  have Hz : ∀ (o1 o2 o3 : Obj) (cs : Array Value), Hid (∃ cs', ((((w.alloc o1).alloc o2).alloc o3).alloc (.cells cs 42)).heap[w.heap.size + 1 + 1 + 1]? = some (.cells cs' 42 (0, 0))) := fun o1 o2 o3 cs => ⟨cs, by
    have := heap_new (((w.alloc o1).alloc o2).alloc o3) (.cells cs 42)
    simpa using this⟩
  clear hT hp hc
  go_enter Yba.func6, Yba.ntmps6
  go_wp2_with (fail)
  refine (Sub_any _ (w.heap.size + 1 + 1 + 1) c p cv pv ?_ ?_ ?_ ?_ ?_ ?_ ?_ ?_ c1 c2 p1 p2).mono ?_
  · simp
  · simp [go_sem]
  · simp [go_sem]
  · simp [go_sem]
  · simp [go_sem]
  · exact Hz _ _ _ _
  · exact Hc _ _ _ _
  · exact Hp _ _ _ _
  rintro e w5 ⟨rfl, b, hL⟩
  obtain ⟨HA1, HA2, HA3, HA4⟩ := left_abs hL
  have hsz := hL.2.2.2.2.1
  have e6 : (w5.setCell ⟨w.heap.size + 1 + 1 + 1, 0, none⟩ (.bool false)).heap.size = w5.heap.size := by simp [World.setCell]
  have HT5 : Hid (IsInt w5.heap.size (w5.setCell ⟨w.heap.size + 1 + 1 + 1, 0, none⟩ (.bool false)) T t) := ((HT _ _ _ _).out.below HA4).mono (by simp at hsz; omega)
  have HB6 : Hid (Below w.heap.size w (w5.setCell ⟨w.heap.size + 1 + 1 + 1, 0, none⟩ (.bool false))) := (hW _ _ _ _).out.trans (HA4.mono (by omega))
  rw [e6] at HA3
  clear HA4 hsz e6
  have z0 := hL.1
  have f0 := hL.2.2.1
  have r2 := hL.2.2.2.2.2.cell (p := ⟨w.heap.size, 2, none⟩) (by show w.heap.size < w.heap.size + 1 + 1 + 1; omega)
  simp [go_sem] at r2
  clear hL
  go_wp2_with (fail)
  go_region_held3 (fun w' => w'.cell? ⟨w.heap.size, 2, none⟩ = some (.pointer (some ⟨T, 0, none⟩))) (simp [go_sem, *])
    (first
      | (go_at_call 15; refine (Abs_self w5.drew (w.heap.size + 1 + 1 + 1) _ z0 f0).mono ?_; rintro e w' ⟨rfl, rfl⟩)
      | (go_at_call 16; go_must (refine (Cmp_any w5.heap.size _ (w.heap.size + 1 + 1 + 1) T ?hne ((cv - pv).natAbs : Int) t ?hM ?xb ?x0 ?x1 ?hy).mono ?_); go_must ( (case hne => omega); (case hM => omega); (case xb => exact HA1); (case x0 => exact HA2); (case x1 => exact HA3); (case hy => exact HT5); rintro e w' ⟨rfl, nn, rfl⟩)))
  go_wp2
  go_ret
  exact ⟨rfl, below_drewN HB6.out (1 + nn)⟩
end Go.Proofs.Ybulkblc
