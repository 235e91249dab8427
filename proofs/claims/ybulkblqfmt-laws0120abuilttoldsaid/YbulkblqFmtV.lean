import Derived.Test.YbulkblqFmtIter
import Derived.Deep.RegionLawGrows
import Derived.Laws.AppendOwnNone
import Derived.Maps.AppendAt
import Derived.Deep.Upon
namespace Go.Proofs.YbulkblqFmt
open Go.RowKit
open Go.WideShapes (add_plain)

theorem Ybaf.info56 : (Ybaf.prog.info? 56).map (fun i => (i.zero, i.size, i.bytes)) = some (some (.agg #[.int .i64 0, .int .i64 0]), 2, 16) := by kernel_rfl

/-- The slice of the value pointers read, k of them, in a row of 'cap'. -/
structure VS (w : World) (g cap k : Nat) (of lf : Nat → Int) : Prop where
  lt : g < w.heap.size
  kc : k ≤ cap
  v : VRow w g k of lf
  sp : ∀ j, j < cap * 2 → (w.cell? ⟨g, j, none⟩).isSome = true
  fz : ∀ j, w.frozen? ⟨g, j, none⟩ = false

theorem VS.block {w w' : World} {g cap k : Nat} {of lf : Nat → Int} (h : VS w g cap k of lf) (hb : w'.heap[g]? = w.heap[g]?) (hs : w.heap.size ≤ w'.heap.size) : VS w' g cap k of lf := by
  have hc : ∀ j, w'.cell? ⟨g, j, none⟩ = w.cell? ⟨g, j, none⟩ := fun j => World.cell?_of_block hb
  have hf : ∀ j, w'.frozen? ⟨g, j, none⟩ = w.frozen? ⟨g, j, none⟩ := fun j => World.frozen?_of_block hb
  exact ⟨Nat.lt_of_lt_of_le h.lt hs, h.kc, fun i hi => ⟨(hc _).trans (h.v i hi).1, (hc _).trans (h.v i hi).2⟩, fun j hj => by rw [hc]; exact h.sp j hj, fun j => by rw [hf]; exact h.fz j⟩
theorem VS.below {w w' : World} {B g cap k : Nat} {of lf : Nat → Int} (h : VS w g cap k of lf) (hB : Below B w w') (hg : g < B) : VS w' g cap k of lf := h.block (hB.block g hg) hB.size

def vals (of lf : Nat → Int) : Nat → List Value
  | 0 => []
  | k + 1 => vals of lf k ++ [.int .i64 (of k), .int .i64 (lf k)]
theorem vals_len (of lf : Nat → Int) : ∀ k, (vals of lf k).length = k * 2
  | 0 => rfl
  | k + 1 => by simp [vals, vals_len of lf k]; omega
theorem vals_get (of lf : Nat → Int) : ∀ (k i : Nat), i < k → (vals of lf k)[i * 2]? = some (.int .i64 (of i)) ∧ (vals of lf k)[i * 2 + 1]? = some (.int .i64 (lf i))
  | 0, i, h => by omega
  | k + 1, i, h => by
    have hl := vals_len of lf k
    by_cases e : i = k
    · subst e
      unfold vals
      constructor
      · rw [List.getElem?_append_right (by omega), hl]; simp
      · rw [List.getElem?_append_right (by omega), hl]; simp
    · have ih := vals_get of lf k i (by omega)
      unfold vals
      constructor
      · rw [List.getElem?_append_left (by omega)]; exact ih.1
      · rw [List.getElem?_append_left (by omega)]; exact ih.2
theorem vals_cells {w : World} {g k : Nat} {of lf : Nat → Int} (h : VRow w g k of lf) (j : Nat) (u : Value) (hu : (vals of lf k)[j]? = some u) : w.cell? ((⟨g, 0, none⟩ : Addr).add j) = some u := by
  have hj : j < k * 2 := by rw [← vals_len of lf k]; exact (List.getElem?_eq_some_iff.1 hu).1
  rw [add_plain, Nat.zero_add]
  have hi : j / 2 < k := by omega
  have hg := vals_get of lf k (j / 2) hi
  have hc := h (j / 2) hi
  rcases Nat.mod_two_eq_zero_or_one j with e | e
  · have e2 : j / 2 * 2 = j := by omega
    rw [e2] at hg hc
    rw [hg.1] at hu
    rw [hc.1, hu]
  · have e2 : j / 2 * 2 + 1 = j := by omega
    rw [e2] at hg hc
    rw [hg.2] at hu
    rw [hc.2, hu]

theorem own_vs {w : World} {base n : Nat} {v : Value} {of lf : Nat → Int} (h : w.ownsRow base 56 2 v n (vals of lf n)) (hn : 0 < n) : ∃ g cap, v = .slice (some ⟨g, 0, none⟩) n cap ∧ base ≤ g ∧ VS w g cap n of lf := by
  rcases h.2 with ⟨_, h0⟩ | ⟨g, cap, cur, rfl, hb, hg, hnc, _, hcs, _⟩
  · omega
  have hcell : ∀ j, w.cell? ⟨g, j, none⟩ = cur[j]? := fun j => by simp [World.cell?, hg]
  refine ⟨g, cap, rfl, hb, (Array.getElem?_eq_some_iff.1 hg).1, hnc, fun i hi => ?_, fun j hj => ?_, fun j => by simp [World.frozen?, hg]⟩
  · have hv := vals_get of lf n i hi
    have h0 := h.cells (g := g) rfl _ _ hv.1
    have h1 := h.cells (g := g) rfl _ _ hv.2
    rw [add_plain, Nat.zero_add] at h0 h1
    exact ⟨h0, h1⟩
  · rw [hcell]
    simp
    omega

theorem vs_set {w : World} {g cap k : Nat} {of lf : Nat → Int} (h : VS w g cap k of lf) (hr : k + 1 ≤ cap) : VS (w.setCells g (0 + k * 2) [.int .i64 (of k), .int .i64 (lf k)]) g cap (k + 1) of lf ∧ w.grownBy (w.setCells g (0 + k * 2) [.int .i64 (of k), .int .i64 (lf k)]) (some g) := by
  have hin := World.cell?_setCells_in g [.int .i64 (of k), .int .i64 (lf k)] (0 + k * 2) w (fun j hj => h.sp _ (by simp at hj; omega))
  have hsz : (w.setCells g (0 + k * 2) [.int .i64 (of k), .int .i64 (lf k)]).heap.size = w.heap.size := by simp [World.setCells, World.setCell]
  refine ⟨⟨by rw [hsz]; exact h.lt, hr, fun i hi => ?_, fun j hj => World.isSome_setCells g _ _ _ _ (h.sp j hj), fun j => by rw [World.frozen?_setCells]; exact h.fz j⟩, ?_⟩
  · by_cases e : i = k
    · subst e
      have h0 := hin 0 (by simp)
      have h1 := hin 1 (by simp)
      simp only [Nat.zero_add, Nat.add_zero] at h0 h1
      exact ⟨by rw [show (0 + i * 2) = i * 2 by omega]; exact h0, by rw [show (0 + i * 2) = i * 2 by omega]; exact h1⟩
    · have hv := h.v i (by omega)
      exact ⟨by rw [World.cell?_setCells_out _ _ _ _ _ (fun _ _ => by simp; omega)]; exact hv.1, by rw [World.cell?_setCells_out _ _ _ _ _ (fun _ _ => by simp; omega)]; exact hv.2⟩
  · refine ⟨World.os_setCells _ _ _ _, ?_, World.output_setCells _ _ _ _, by rw [hsz]; exact Nat.le_refl _, fun i hi hne => World.heap_setCells_other w g _ _ hi (fun e => hne (by rw [e]))⟩
    simp [World.setCells, World.setCell]

/-- 'read = append(read, ..)': the step. -/
theorem step_append_v {ops : Array Oper} {o : Oper} {a : Act} {w : World} {K : Act → World → Prop} {Q : Exit → Act → World → Prop} {E : Prop}
    (hg : o.guard = none) (s x : Operand) (hop : o.op = Op.call { callee := Callee.builtin Builtin.append, args := #[s, x], argTypes := #[58, 58] })
    (g cap k : Nat) (of lf : Nat → Int) (hs : a.eval s = .slice (some ⟨g, 0, none⟩) k cap) (h : VS w g cap k of lf)
    (ad : Addr) (c : Nat) (hx : a.eval x = .slice (some ad) 1 c) (hc : ∀ j u, [Value.int .i64 (of k), .int .i64 (lf k)][j]? = some u → w.cell? (ad.add j) = some u) (hk : k ≤ 1000)
    (hK : ∀ g' cap' w', VS w' g' cap' (k + 1) of lf → w.grownBy w' (some g) → (g' = g ∨ w.heap.size ≤ g') → K (a.put o.dst (.slice (some ⟨g', 0, none⟩) (k + 1) cap')) w') :
    if Region.wanted o (yielded ops a.tmps) = true then Oper.wp Ybaf.prog o a w K Q else E := by
  obtain ⟨i, hi, hz0, hz1, hz2⟩ := info_parts Ybaf.info56
  have h1 : ∀ u ∈ [Value.int .i64 (of k), .int .i64 (lf k)], u.oneCell' = true := fun u hu => by simp at hu; rcases hu with rfl | rfl <;> rfl
  by_cases hr : k + 1 ≤ cap
  · have hv := vs_set h hr
    refine step_append_room hg s x 58 hop 56 i 2 Ybaf.underlying58 hi hz1 g 0 k cap hs ad 1 c [.int .i64 (of k), .int .i64 (lf k)] hx rfl hc h1 hr (fun j hj => ⟨h.sp _ (by simp at hj; omega), h.fz _⟩) ?_
    exact hK g cap _ hv.1 hv.2 (.inl rfl)
  · refine step_append_grows hg s x 58 hop 56 i _ 2 16 Ybaf.underlying58 hi hz0 hz1 hz2 rfl (by decide) (some ⟨g, 0, none⟩) k cap (vals of lf k) hs (fun e => by cases e) (vals_len of lf k) (fun b e j u hu => by cases e; exact vals_cells h.v j u hu) ad 1 c [.int .i64 (of k), .int .i64 (lf k)] hx rfl hc h1 (by omega) (by unfold maxLen; omega) (by omega) ?_
    intro v' w' hown hgrow
    obtain ⟨g', cap', rfl, hb, hvs⟩ := own_vs (of := of) (lf := lf) (n := k + 1) hown (by omega)
    exact hK g' cap' w' hvs ⟨hgrow.os, hgrow.tape, hgrow.output, hgrow.size, fun j hj _ => hgrow.block j hj (by simp)⟩ (.inr hb)
end Go.Proofs.YbulkblqFmt
