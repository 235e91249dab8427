import Derived.Test.YbulkblqFmtV
import Derived.Deep.DeepCutAuto
import Derived.LoopTactic
namespace Go.Proofs.YbulkblqFmt
open Go.RowKit Go.Extern.Stop Go.Stop Go.Extern
open Go.WideShapes (add_plain)

def vS : ByteArray := ⟨#[118]⟩

/-- The pointers handed in. -/
def PtrRow (w : World) (gp m : Nat) (at_ : Nat → Nat) : Prop := gp < w.heap.size ∧ ∀ i, i < m → w.cell? ⟨gp, i * 2, none⟩ = some (.string vS) ∧ w.cell? ⟨gp, i * 2 + 1, none⟩ = some (.int .i64 (at_ i : Nat))
theorem PtrRow.below {w w' : World} {gp m : Nat} {at_ : Nat → Nat} (h : PtrRow w gp m at_) (hB : Below w.heap.size w w') : PtrRow w' gp m at_ :=
  ⟨Nat.lt_of_lt_of_le h.1 hB.size, fun i hi => ⟨(hB.cell (p := ⟨gp, i * 2, none⟩) h.1).trans (h.2 i hi).1, (hB.cell (p := ⟨gp, i * 2 + 1, none⟩) h.1).trans (h.2 i hi).2⟩⟩

/-- The frame's boxes, in the world at hand, k pointers read. n: the heap's size where the call begins. -/
structure CK (w wr : World) (ap : Option Addr) (m cp : Nat) (of lf : Nat → Int) (g cap k : Nat) : Prop where
  c5 : wr.cell? ⟨w.heap.size, 0, none⟩ = some (.slice ap m cp)
  c6 : wr.cell? ⟨w.heap.size + 1, 0, none⟩ = some (.string ⟨#[]⟩)
  f6 : wr.frozen? ⟨w.heap.size + 1, 0, none⟩ = false
  c7 : wr.cell? ⟨w.heap.size + 1 + 1, 0, none⟩ = some (.string ⟨#[]⟩)
  f7 : wr.frozen? ⟨w.heap.size + 1 + 1, 0, none⟩ = false
  c9 : wr.cell? ⟨w.heap.size + 1 + 1 + 1 + 1, 0, none⟩ = some (.slice (some ⟨g, 0, none⟩) k cap)
  f9 : wr.frozen? ⟨w.heap.size + 1 + 1 + 1 + 1, 0, none⟩ = false
  gn : w.heap.size + 1 + 1 + 1 ≤ g ∧ g ≠ w.heap.size + 1 + 1 + 1 + 1
  vs : VS wr g cap k of lf
  bel : Below w.heap.size w wr
  sz : w.heap.size + 1 + 1 + 1 + 1 < wr.heap.size

theorem CK.below {w wr wr' : World} {ap : Option Addr} {m cp : Nat} {of lf : Nat → Int} {g cap k : Nat} (h : CK w wr ap m cp of lf g cap k) (hB : Below wr.heap.size wr wr') : CK w wr' ap m cp of lf g cap k := by
  have hs := h.sz
  have hc : ∀ x j, x < wr.heap.size → wr'.cell? ⟨x, j, none⟩ = wr.cell? ⟨x, j, none⟩ := fun x j hx => hB.cell (p := ⟨x, j, none⟩) hx
  have hf : ∀ x j, x < wr.heap.size → wr'.frozen? ⟨x, j, none⟩ = wr.frozen? ⟨x, j, none⟩ := fun x j hx => hB.frozen (p := ⟨x, j, none⟩) hx
  exact ⟨(hc _ _ (by omega)).trans h.c5, (hc _ _ (by omega)).trans h.c6, (hf _ _ (by omega)).trans h.f6, (hc _ _ (by omega)).trans h.c7, (hf _ _ (by omega)).trans h.f7, (hc _ _ (by omega)).trans h.c9, (hf _ _ (by omega)).trans h.f9, h.gn, h.vs.below hB h.vs.lt, h.bel.trans (hB.mono h.bel.size), Nat.lt_of_lt_of_le hs hB.size⟩

/-- Behind the append and the store. -/
theorem CK.next {w wr w1 w2 : World} {ap : Option Addr} {m cp : Nat} {of lf : Nat → Int} {g cap k g' cap' : Nat} (h : CK w wr ap m cp of lf g cap k) (hB : Below wr.heap.size wr w1) (hv : VS w2 g' cap' (k + 1) of lf) (hg : w1.grownBy w2 (some g)) (hor : g' = g ∨ w1.heap.size ≤ g') :
    CK w (w2.setCell ⟨w.heap.size + 1 + 1 + 1 + 1, 0, none⟩ (.slice (some ⟨g', 0, none⟩) (k + 1) cap')) ap m cp of lf g' cap' (k + 1) := by
  have h1 := h.below hB
  have hs := h1.sz
  have hgn := h1.gn
  have hbk : ∀ x, x < w1.heap.size → x ≠ g → w2.heap[x]? = w1.heap[x]? := fun x hx hne => hg.block x hx (fun e => hne (by simpa using e))
  have hc : ∀ x, x < w1.heap.size → x ≠ g → w2.cell? ⟨x, 0, none⟩ = w1.cell? ⟨x, 0, none⟩ := fun x hx hne => World.cell?_of_block (hbk x hx hne)
  have hf : ∀ x, x < w1.heap.size → x ≠ g → w2.frozen? ⟨x, 0, none⟩ = w1.frozen? ⟨x, 0, none⟩ := fun x hx hne => World.frozen?_of_block (hbk x hx hne)
  have hsz : w1.heap.size ≤ w2.heap.size := hg.size
  have e9 : w2.cell? ⟨w.heap.size + 1 + 1 + 1 + 1, 0, none⟩ = some (.slice (some ⟨g, 0, none⟩) k cap) := (hc _ (by omega) (by omega)).trans h1.c9
  have hg' : g' ≠ w.heap.size + 1 + 1 + 1 + 1 := by rcases hor with rfl | h <;> omega
  have far : ∀ (x : Nat) (v : Value), x ≠ w.heap.size + 1 + 1 + 1 + 1 → (w2.setCell ⟨w.heap.size + 1 + 1 + 1 + 1, 0, none⟩ v).cell? ⟨x, 0, none⟩ = w2.cell? ⟨x, 0, none⟩ := fun x v hx => World.cell?_setCell_far _ _ _ _ (fun e => hx e.symm)
  refine ⟨?_, ?_, ?_, ?_, ?_, ?_, ?_, ?_, ?_, ?_, ?_⟩
  · rw [far _ _ (by omega), hc _ (by omega) (by omega)]; exact h1.c5
  · rw [far _ _ (by omega), hc _ (by omega) (by omega)]; exact h1.c6
  · rw [World.frozen?_setCell, hf _ (by omega) (by omega)]; exact h1.f6
  · rw [far _ _ (by omega), hc _ (by omega) (by omega)]; exact h1.c7
  · rw [World.frozen?_setCell, hf _ (by omega) (by omega)]; exact h1.f7
  · exact World.cell?_setCell_same _ _ _ e9
  · rw [World.frozen?_setCell, hf _ (by omega) (by omega)]; exact h1.f9
  · exact ⟨by rcases hor with rfl | h <;> omega, hg'⟩
  · exact hv.block (Below.heap_setCell _ _ _ _ hg') (by simp [World.setCell])
  · exact (h1.bel.grown hg (by omega) (fun x e => by cases e; omega)).setCell (p := ⟨w.heap.size + 1 + 1 + 1 + 1, 0, none⟩) (by show w.heap.size ≤ w.heap.size + 1 + 1 + 1 + 1; omega) _
  · simp [World.setCell]; omega

def few8 : Array Value := #[.int .i64 0, .int .i64 0, .int .i64 0, .int .i64 0, .int .i64 0, .int .i64 0, .int .i64 0, .int .i64 0, .int .i64 0, .int .i64 0, .int .i64 0, .int .i64 0, .int .i64 0, .int .i64 0, .int .i64 0, .int .i64 0]

theorem befor1 {wr w1 : World} {x : Obj} (h : Below (wr.alloc x).drew.heap.size (wr.alloc x).drew w1) : Below wr.heap.size wr w1 :=
  (((Below.refl _ _).alloc (Nat.le_refl _) x).drew).trans (h.mono (by show wr.heap.size ≤ (wr.alloc x).heap.size; simp))

theorem after9 {w wr w1 w2 : World} {ap : Option Addr} {m cp : Nat} {of lf : Nat → Int} {g cap k : Nat} (h : CK w wr ap m cp of lf g cap k) (hB : Below wr.heap.size wr w1) (hg : w1.grownBy w2 (some g)) :
    w2.cell? ⟨w.heap.size + 1 + 1 + 1 + 1, 0, none⟩ = some (.slice (some ⟨g, 0, none⟩) k cap) ∧ w2.frozen? ⟨w.heap.size + 1 + 1 + 1 + 1, 0, none⟩ = false := by
  have h1 := h.below hB
  have hb := hg.block (w.heap.size + 1 + 1 + 1 + 1) h1.sz (fun e => h1.gn.2 (by simpa using e.symm))
  exact ⟨(World.cell?_of_block hb).trans h1.c9, (World.frozen?_of_block hb).trans h1.f9⟩

theorem ck_new (w : World) (ap : Option Addr) (m cp : Nat) (of lf : Nat → Int) :
    CK w (((((w.alloc (.cells #[.slice ap m cp] 25)).alloc (.cells #[.string ⟨#[]⟩] 29)).alloc (.cells #[.string ⟨#[]⟩] 9)).alloc (.cells few8 57)).alloc (.cells #[.slice (some ⟨w.heap.size + 1 + 1 + 1, 0, none⟩) 0 8] 58)) ap m cp of lf (w.heap.size + 1 + 1 + 1) 8 0 := by
  refine ⟨by simp [go_sem], by simp [go_sem], by simp [go_sem], by simp [go_sem], by simp [go_sem], by simp [go_sem], by simp [go_sem], ⟨Nat.le_refl _, by omega⟩, ⟨by simp, by omega, fun i hi => by omega, fun j hj => ?_, fun j => by simp [go_sem]⟩, belowA (belowA (belowA (belowA (belowA (Below.refl _ _) _) _) _) _) _, by simp⟩
  have : (few8[j]?).isSome = true := by simp [few8]; omega
  simpa [go_sem] using this

theorem chk_res (tm : Array Value) (n6 n7 : Nat) (W : World) (r txt : ByteArray) (h6 : tm.getD 6 undef = .pointer (some ⟨n6, 0, none⟩)) (h7 : tm.getD 7 undef = .pointer (some ⟨n7, 0, none⟩))
    (c6 : W.cell? ⟨n6, 0, none⟩ = some (.string r)) (c7 : W.cell? ⟨n7, 0, none⟩ = some (.string txt)) : (results Ybaf.f9 tm).run Ybaf.prog W = .ok (.tuple #[.string r, .string txt]) W := by
  have h6' : tm[6]?.getD undef = .pointer (some ⟨n6, 0, none⟩) := by simpa using h6
  have h7' : tm[7]?.getD undef = .pointer (some ⟨n7, 0, none⟩) := by simpa using h7
  simp [results, Ybaf.results9, go_sem, h6', h7', c6, c7]

theorem chk_out0 (tm : Array Value) (n6 n7 : Nat) (W : World) (r txt : ByteArray) (R : Ending → World → Prop) (h6 : tm.getD 6 undef = .pointer (some ⟨n6, 0, none⟩)) (h7 : tm.getD 7 undef = .pointer (some ⟨n7, 0, none⟩))
    (c6 : W.cell? ⟨n6, 0, none⟩ = some (.string r)) (c7 : W.cell? ⟨n7, 0, none⟩ = some (.string txt)) (hR : R (.returned (.tuple #[.string r, .string txt])) W) : LeavesInM Fence.wide 3 Ybaf.prog Ybaf.f9 tm R [] .returning W :=
  ⟨_, chk_res tm n6 n7 W r txt h6 h7 c6 c7, hR⟩

theorem chk_out1 (tm : Array Value) (n6 n7 D : Nat) (W : World) (r txt : ByteArray) (R : Ending → World → Prop) (h6 : tm.getD 6 undef = .pointer (some ⟨n6, 0, none⟩)) (h7 : tm.getD 7 undef = .pointer (some ⟨n7, 0, none⟩))
    (c6 : W.cell? ⟨n6, 0, none⟩ = some (.string r)) (c7 : W.cell? ⟨n7, 0, none⟩ = some (.string txt)) (hK : W.heap[D]? = some (.deferred (some []))) (hR : R (.returned (.tuple #[.string r, .string txt])) (W.putObj D (.deferred none))) :
    LeavesInM Fence.wide 3 Ybaf.prog Ybaf.f9 tm R [{ target := .collected D, args := #[] }] .returning W :=
  ⟨by simp, .inl ⟨_, _, rfl, run_takeDeferred hK, chk_out0 tm n6 n7 _ r txt R h6 h7 (cell_kept c6 (grownBy_putObj' _ D (.deferred none)) (fun r e => by cases e; exact ⟨_, hK, rfl⟩)) (cell_kept c7 (grownBy_putObj' _ D (.deferred none)) (fun r e => by cases e; exact ⟨_, hK, rfl⟩)) hR⟩⟩

theorem chk_out2 (tm : Array Value) (n6 n7 D D' : Nat) (W : World) (r txt : ByteArray) (R : Ending → World → Prop) (h6 : tm.getD 6 undef = .pointer (some ⟨n6, 0, none⟩)) (h7 : tm.getD 7 undef = .pointer (some ⟨n7, 0, none⟩))
    (c6 : W.cell? ⟨n6, 0, none⟩ = some (.string r)) (c7 : W.cell? ⟨n7, 0, none⟩ = some (.string txt)) (hK : W.heap[D]? = some (.deferred (some []))) (hK' : W.heap[D']? = some (.deferred (some []))) (hne : D' ≠ D) (hR : R (.returned (.tuple #[.string r, .string txt])) ((W.putObj D' (.deferred none)).putObj D (.deferred none))) :
    LeavesInM Fence.wide 3 Ybaf.prog Ybaf.f9 tm R [{ target := .collected D', args := #[] }, { target := .collected D, args := #[] }] .returning W :=
  ⟨by simp, .inl ⟨_, _, rfl, run_takeDeferred hK', chk_out1 tm n6 n7 D _ r txt R h6 h7 (cell_kept c6 (grownBy_putObj' _ D' (.deferred none)) (fun r e => by cases e; exact ⟨_, hK', rfl⟩)) (cell_kept c7 (grownBy_putObj' _ D' (.deferred none)) (fun r e => by cases e; exact ⟨_, hK', rfl⟩))
    (((grownBy_putObj' W D' (.deferred none)).block D (Array.getElem?_eq_some_iff.1 hK).1 (by simpa using fun e => hne e.symm)).trans hK) hR⟩⟩

theorem pair_cells (w : World) (x y : Value) (t : TypeId) (j : Nat) (u : Value) (h : [x, y][j]? = some u) : (w.alloc (.cells #[x, y] t)).cell? ((⟨w.heap.size, 0, none⟩ : Addr).add j) = some u := by
  rw [add_plain, Nat.zero_add]
  simp [go_sem]
  rw [← h]

end Go.Proofs.YbulkblqFmt
