import Derived.Test.YbulkblqFmtRs
import Derived.OpenShut
namespace Go.Proofs.YbulkblqFmt
open Go.RowKit Go.Extern.Stop Go.Stop Go.Extern
open Go.WideShapes (add_plain)

/-- A row of n bytes of the walk's own. -/
structure BR (w : World) (g n : Nat) : Prop where
  lt : g < w.heap.size
  cell : ∀ j, j < n → ∃ z : Int, (0 ≤ z ∧ z ≤ 255) ∧ w.cell? ⟨g, j, none⟩ = some (.int .u8 z)
  fz : ∀ j, w.frozen? ⟨g, j, none⟩ = false

theorem BR.set {w : World} {g n : Nat} (h : BR w g n) (i : Nat) (z : Int) (hz : 0 ≤ z ∧ z ≤ 255) (hi : i < n) : BR (w.setCell ⟨g, i, none⟩ (.int .u8 z)) g n := by
  refine ⟨by simpa [World.setCell] using h.lt, fun j hj => ?_, fun j => by rw [World.frozen?_setCell]; exact h.fz j⟩
  by_cases e : j = i
  · subst e
    obtain ⟨y, _, hy⟩ := h.cell j hj
    exact ⟨z, hz, World.cell?_setCell_same _ _ _ hy⟩
  · obtain ⟨y, hy0, hy⟩ := h.cell j hj
    exact ⟨y, hy0, by rw [World.cell?_setCell_other _ _ _ _ (by simp)]; exact hy⟩
theorem BR.far {w : World} {g n : Nat} (h : BR w g n) (g' j' : Nat) (v : Value) (hne : g' ≠ g) : BR (w.setCell ⟨g', j', none⟩ v) g n :=
  ⟨by simpa [World.setCell] using h.lt, fun j hj => by rw [World.cell?_setCell_far _ _ _ _ hne]; exact h.cell j hj, fun j => by rw [World.frozen?_setCell]; exact h.fz j⟩
theorem BR.below {w w' : World} {g n : Nat} (h : BR w g n) (hB : Below w.heap.size w w') : BR w' g n :=
  ⟨Nat.lt_of_lt_of_le h.lt hB.size, fun j hj => by obtain ⟨z, hz, hc⟩ := h.cell j hj; exact ⟨z, hz, (hB.cell (p := ⟨g, j, none⟩) h.lt).trans hc⟩, fun j => (hB.frozen (p := ⟨g, j, none⟩) h.lt).trans (h.fz j)⟩
theorem BR.alloc {w : World} {g n : Nat} (h : BR w g n) (x : Obj) : BR (w.alloc x) g n := h.below ((Below.refl _ _).alloc (Nat.le_refl _) _)
theorem made_br (w : World) (n : Nat) : BR (w.alloc (.cells (madeCells #[.int .u8 0] n) 5)) w.heap.size n := by
  have e : madeCells #[Value.int .u8 0] n = (List.replicate n (Value.int .u8 0)).toArray := by rw [← toList_madeCells_one]
  refine ⟨by simp, fun j hj => ⟨0, by omega, ?_⟩, fun j => by simp [go_sem]⟩
  rw [e]
  simp [go_sem, hj]
/-- The byte that lies there. -/
def byteAt (w : World) (g j : Nat) : Int := match w.cell? ⟨g, j, none⟩ with
  | some (.int _ z) => z
  | _ => 0
theorem BR.row {w : World} {g n : Nat} (h : BR w g n) : ∃ fz : Nat → Int, (∀ j, 0 ≤ fz j ∧ fz j ≤ 255) ∧ ByteRow w g 0 (0 + n) fz := by
  refine ⟨fun j => if j < n then byteAt w g j else 0, fun j => ?_, h.lt, fun j _ hj => ?_⟩
  · show 0 ≤ (if j < n then byteAt w g j else 0) ∧ (if j < n then byteAt w g j else 0) ≤ 255
    by_cases hj : j < n
    · obtain ⟨z, hz, hc⟩ := h.cell j hj
      rw [if_pos hj]
      simpa [byteAt, hc] using hz
    · rw [if_neg hj]; omega
  · have hj : j < n := by omega
    obtain ⟨z, hz, hc⟩ := h.cell j hj
    show w.cell? ⟨g, j, none⟩ = some (.int .u8 (if j < n then byteAt w g j else 0))
    rw [if_pos hj]
    simp [byteAt, hc]

/-- A row of k named pointers of the walk's own, of which the first kk are written. -/
structure PA (w : World) (g k : Nat) (at_ : Nat → Nat) (kk : Nat) : Prop where
  lt : g < w.heap.size
  cell : ∀ j, j < k → j < kk → w.cell? ⟨g, j * 2, none⟩ = some (.string vS) ∧ w.cell? ⟨g, j * 2 + 1, none⟩ = some (.int .i64 (at_ j : Nat))
  any : ∀ j, j < k → (∃ a, w.cell? ⟨g, j * 2, none⟩ = some a) ∧ ∃ b, w.cell? ⟨g, j * 2 + 1, none⟩ = some b
  fz : ∀ j, w.frozen? ⟨g, j, none⟩ = false

theorem PA.far {w : World} {g k : Nat} {at_ : Nat → Nat} {kk : Nat} (h : PA w g k at_ kk) (g' j' : Nat) (v : Value) (hne : g' ≠ g) : PA (w.setCell ⟨g', j', none⟩ v) g k at_ kk :=
  ⟨by simpa [World.setCell] using h.lt, fun j hj hk => by rw [World.cell?_setCell_far _ _ _ _ hne, World.cell?_setCell_far _ _ _ _ hne]; exact h.cell j hj hk,
    fun j hj => by rw [World.cell?_setCell_far _ _ _ _ hne, World.cell?_setCell_far _ _ _ _ hne]; exact h.any j hj, fun j => by rw [World.frozen?_setCell]; exact h.fz j⟩
theorem PA.set {w : World} {g k : Nat} {at_ : Nat → Nat} {kk : Nat} (h : PA w g k at_ kk) (hk : kk < k) :
    PA ((w.setCell ⟨g, kk * 2, none⟩ (.string vS)).setCell ⟨g, kk * 2 + 1, none⟩ (.int .i64 (at_ kk : Nat))) g k at_ (kk + 1) := by
  obtain ⟨⟨a, ha⟩, b, hb⟩ := h.any kk hk
  have hs : ((w.setCell ⟨g, kk * 2, none⟩ (.string vS)).setCell ⟨g, kk * 2 + 1, none⟩ (.int .i64 (at_ kk : Nat))).cell? ⟨g, kk * 2, none⟩ = some (.string vS) ∧ ((w.setCell ⟨g, kk * 2, none⟩ (.string vS)).setCell ⟨g, kk * 2 + 1, none⟩ (.int .i64 (at_ kk : Nat))).cell? ⟨g, kk * 2 + 1, none⟩ = some (.int .i64 (at_ kk : Nat)) := by
    have hb' : (w.setCell ⟨g, kk * 2, none⟩ (.string vS)).cell? ⟨g, kk * 2 + 1, none⟩ = some b := by rw [World.cell?_setCell_other _ _ _ _ (by simp)]; exact hb
    exact ⟨by rw [World.cell?_setCell_other _ _ _ _ (by simp)]; exact World.cell?_setCell_same _ _ _ ha, World.cell?_setCell_same _ _ _ hb'⟩
  have ho : ∀ j, j ≠ kk → ∀ e, e ≤ 1 → ((w.setCell ⟨g, kk * 2, none⟩ (.string vS)).setCell ⟨g, kk * 2 + 1, none⟩ (.int .i64 (at_ kk : Nat))).cell? ⟨g, j * 2 + e, none⟩ = w.cell? ⟨g, j * 2 + e, none⟩ := fun j hj e he => by
    rw [World.cell?_setCell_other _ _ _ _ (by simp), World.cell?_setCell_other _ _ _ _ (by simp)]
  refine ⟨by simpa [World.setCell] using h.lt, fun j hj hk' => ?_, fun j hj => ?_, fun j => by rw [World.frozen?_setCell, World.frozen?_setCell]; exact h.fz j⟩
  · by_cases e : j = kk
    · subst e; exact hs
    · have h0 := ho j e 0 (by omega); have h1 := ho j e 1 (by omega)
      simp only [Nat.add_zero] at h0
      rw [h0, h1]; exact h.cell j hj (by omega)
  · by_cases e : j = kk
    · subst e; exact ⟨⟨_, hs.1⟩, _, hs.2⟩
    · have h0 := ho j e 0 (by omega); have h1 := ho j e 1 (by omega)
      simp only [Nat.add_zero] at h0
      rw [h0, h1]; exact h.any j hj

theorem make_ptrs (k : Nat) (hk : k ≤ 256) (w : World) : (Instr.makeSlice 25 (.int .i64 (k : Int)) (.int .i64 (k : Int))).run Ybaf.prog w = .ok (.slice (some ⟨w.heap.size, 0, none⟩) k k) (w.alloc (.cells (madeCells #[.string ⟨#[]⟩, .int .i64 0] (k * 2)) 28)) := by
  obtain ⟨i28, hi28, hz280, hz281, hz282⟩ := info_parts Ybaf.info28
  have hr := run_make (P := Ybaf.prog) w 25 28 i28 _ Ybaf.underlying25 hi28 hz280 .i64 .i64 k k (by omega) (Int.le_refl _) (by rw [hz282]; omega) (by omega)
  simp only [Int.toNat_natCast, hz281, Value.cells] at hr
  exact hr
theorem made_pa (w : World) (k : Nat) (at_ : Nat → Nat) : PA (w.alloc (.cells (madeCells #[.string ⟨#[]⟩, .int .i64 0] (k * 2)) 28)) w.heap.size k at_ 0 := by
  refine ⟨by simp, fun j _ hj => by omega, fun j hj => ?_, fun j => by simp [go_sem]⟩
  have h : ∀ i, i < k * 2 → ∃ a, (w.alloc (.cells (madeCells #[.string ⟨#[]⟩, .int .i64 0] (k * 2)) 28)).cell? ⟨w.heap.size, i, none⟩ = some a := fun i hi => by
    refine ⟨(madeCells #[.string ⟨#[]⟩, .int .i64 0] (k * 2))[i]'(by rw [size_madeCells]; exact hi), ?_⟩
    simp only [World.cell?_alloc_new]
    exact Array.getElem?_eq_getElem _
  exact ⟨h _ (by omega), h _ (by omega)⟩

/-- The pairs handed in. -/
def PairRow (w : World) (b o k : Nat) : Prop := ∀ i, i < k → ∃ x y : Int, (0 ≤ x ∧ x ≤ 255) ∧ (0 ≤ y ∧ y ≤ 255) ∧ w.cell? ⟨b, o + i * 2, none⟩ = some (.int .u8 x) ∧ w.cell? ⟨b, o + i * 2 + 1, none⟩ = some (.int .u8 y)

/-- Behind a round's stores. -/
theorem built_next {w wr : World} {N k kk : Nat} (HD : BR wr w.heap.size N) (HA : Arr wr (w.heap.size + 1) k (fun i => 4 * (i : Int)) kk) (HQ : PA wr (w.heap.size + 1 + 1) k (fun i => 4 * i) kk) (HB : Below w.heap.size w wr) (hlt : kk < k) (hN : 4 * k ≤ N)
    (z0 z1 z2 z3 : Int) (h0 : 0 ≤ z0 ∧ z0 ≤ 255) (h1 : 0 ≤ z1 ∧ z1 ≤ 255) (h2 : 0 ≤ z2 ∧ z2 ≤ 255) (h3 : 0 ≤ z3 ∧ z3 ≤ 255) {W : World}
    (hW : W = (((((((wr.setCell ⟨w.heap.size, 4 * kk, none⟩ (.int .u8 z0)).setCell ⟨w.heap.size, 4 * kk + 1, none⟩ (.int .u8 z1)).setCell ⟨w.heap.size, 4 * kk + 2, none⟩ (.int .u8 z2)).setCell ⟨w.heap.size, 4 * kk + 3, none⟩ (.int .u8 z3)).setCell
      ⟨w.heap.size + 1, kk, none⟩ (.int .i64 (4 * (kk : Int)))).setCell ⟨w.heap.size + 1 + 1, kk * 2, none⟩ (.string ⟨#[118]⟩)).setCell ⟨w.heap.size + 1 + 1, kk * 2 + 1, none⟩ (.int .i64 (4 * (kk : Int))))) :
    BR W w.heap.size N ∧ Arr W (w.heap.size + 1) k (fun i => 4 * (i : Int)) (kk + 1) ∧ PA W (w.heap.size + 1 + 1) k (fun i => 4 * i) (kk + 1) ∧ Below w.heap.size w W := by
  subst hW
  have a1 : w.heap.size + 1 ≠ w.heap.size := by omega
  have a2 : w.heap.size + 1 + 1 ≠ w.heap.size := by omega
  have a3 : w.heap.size + 1 + 1 ≠ w.heap.size + 1 := by omega
  have b1 : w.heap.size ≤ w.heap.size + 1 := by omega
  have b2 : w.heap.size ≤ w.heap.size + 1 + 1 := by omega
  refine ⟨?_, ?_, ?_, ?_⟩
  · exact ((((((HD.set _ z0 h0 (by omega)).set _ z1 h1 (by omega)).set _ z2 h2 (by omega)).set _ z3 h3 (by omega)).far _ _ _ a1).far _ _ _ a2).far _ _ _ a2
  · exact ((((((HA.far _ _ _ a1.symm).far _ _ _ a1.symm).far _ _ _ a1.symm).far _ _ _ a1.symm).set hlt).far _ _ _ a3).far _ _ _ a3
  · have e : (4 * (kk : Int)) = (((fun i => 4 * i) kk : Nat) : Int) := by simp
    rw [e]
    exact (((((HQ.far _ _ _ a2.symm).far _ _ _ a2.symm).far _ _ _ a2.symm).far _ _ _ a2.symm).far _ _ _ a3.symm).set hlt
  · exact ((((((HB.setCell (p := ⟨w.heap.size, _, none⟩) (Nat.le_refl _) _).setCell (p := ⟨w.heap.size, _, none⟩) (Nat.le_refl _) _).setCell (p := ⟨w.heap.size, _, none⟩) (Nat.le_refl _) _).setCell (p := ⟨w.heap.size, _, none⟩) (Nat.le_refl _) _).setCell
      (p := ⟨w.heap.size + 1, _, none⟩) b1 _).setCell (p := ⟨w.heap.size + 1 + 1, _, none⟩) b2 _).setCell (p := ⟨w.heap.size + 1 + 1, _, none⟩) b2 _
end Go.Proofs.YbulkblqFmt
