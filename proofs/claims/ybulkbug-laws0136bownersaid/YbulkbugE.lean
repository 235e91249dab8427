import Derived.Test.YbulkbugB
import Derived.Test.YbulkbugD
namespace Go.Proofs.Ybulkbug
open Go.RowKit
open Go.WideShapes (add_plain)

set_option maxRecDepth 100000 in
set_option maxHeartbeats 4000000 in
theorem stats_core (w : World) (bB gr go gf nr no nf cr co cf p : Nat) (start : Int) (col jn : Nat) (t : Int) (c0 : w.cell? ⟨bB, 0, none⟩ = some (.slice (some ⟨gr, 0, none⟩) nr cr)) (c1 : w.cell? ⟨bB, 1, none⟩ = some (.slice (some ⟨go, 0, none⟩) no co)) (c2 : w.cell? ⟨bB, 2, none⟩ = some (.slice (some ⟨gf, 0, none⟩) nf cf))
    (c4 : w.cell? ⟨bB, 4, none⟩ = some (.int .i64 start)) (f4 : w.frozen? ⟨bB, 4, none⟩ = false) (fl0 : w.frozen? ⟨bB + 1, 0, none⟩ = false) (fl1 : w.frozen? ⟨bB + 1, 1, none⟩ = false)
    (l0 : w.cell? ⟨bB + 1, 0, none⟩ = some (.slice none 0 0)) (l1 : w.cell? ⟨bB + 1, 1, none⟩ = some (.slice none 0 0))
    (hgo : w.cell? ⟨go, col, none⟩ = some (.int .i64 jn)) (hgf : w.cell? ⟨gf, jn, none⟩ = some (.int .i64 t)) (hgr : w.cell? ⟨gr, jn * 6 + 1, none⟩ = some (fnV p))
    (hp : w.cell? ⟨p, 0, none⟩ = some (.int .i64 jn)) (hq : w.cell? ⟨p + 1, 0, none⟩ = some (.pointer (some ⟨bB + 1, 0, none⟩)))
    (hcol : col < no) (hjr : jn < nr) (hjf : jn < nf) (hjm : jn ≤ 1000) (ht0 : 0 ≤ t) (htc : t ≤ col) (hcm : col ≤ 10000)
    (kB : bB + 1 < w.heap.size) (kr : bB + 1 < gr) (kr' : gr < w.heap.size) (ko : bB + 1 < go) (ko' : go < w.heap.size) (kf : bB + 1 < gf) (kf' : gf < w.heap.size) (kp : bB + 1 < p) (kp' : p + 1 < w.heap.size) :
    Calls Yba.prog 6 #[.pointer (some ⟨bB, 0, none⟩), .int .i64 col] w fun e w' => e = .returned (.tuple #[.agg (statV (jn * 1000 + (col - t))), .bool ((jn : Int) % 2 == 0)]) ∧
      ∃ (c1' c2' : Nat) (z1 z2 o1 o2 : Array Value), w' = ((((((((((w.setCell ⟨bB, 4, none⟩ (.int .i64 (wrap64 (start + 1)))).setCell ⟨bB + 1, 0, none⟩ (.slice (some ⟨w.heap.size + 1 + 1 + 1, 0, none⟩) 1 c1')).setCell ⟨bB + 1, 1, none⟩ (.slice (some ⟨w.heap.size + 1 + 1 + 1 + 1 + 1, 0, none⟩) 1 c2')).alloc (.cells (statV (jn * 1000 + (col - t))) 50)).alloc (.cells (statV (jn * 1000 + (col - t))) 50)).alloc (.cells o1 3)).alloc (.cells (#[.int .i64 jn] ++ z1) 3)).alloc (.cells o2 3)).alloc (.cells (#[.int .i64 (col - t)] ++ z2) 3)).drew.drew.drew.drew.drew.drew) := by
  unfold fnV at hgr
  have sbB0 : bB < w.heap.size := by omega
  have sp0 : p < w.heap.size := by omega
  have sbB1 : bB < w.heap.size + 1 := by omega
  have sbB2 : bB < w.heap.size + 1 + 1 := by omega
  have sbB3 : bB < w.heap.size + 1 + 1 + 1 := by omega
  have sbB4 : bB < w.heap.size + 1 + 1 + 1 + 1 := by omega
  have sbB5 : bB < w.heap.size + 1 + 1 + 1 + 1 + 1 := by omega
  have sbB6 : bB < w.heap.size + 1 + 1 + 1 + 1 + 1 + 1 := by omega
  have sgr1 : gr < w.heap.size + 1 := by omega
  have sgr2 : gr < w.heap.size + 1 + 1 := by omega
  have sgr3 : gr < w.heap.size + 1 + 1 + 1 := by omega
  have sgr4 : gr < w.heap.size + 1 + 1 + 1 + 1 := by omega
  have sgr5 : gr < w.heap.size + 1 + 1 + 1 + 1 + 1 := by omega
  have sgr6 : gr < w.heap.size + 1 + 1 + 1 + 1 + 1 + 1 := by omega
  have sgo1 : go < w.heap.size + 1 := by omega
  have sgo2 : go < w.heap.size + 1 + 1 := by omega
  have sgo3 : go < w.heap.size + 1 + 1 + 1 := by omega
  have sgo4 : go < w.heap.size + 1 + 1 + 1 + 1 := by omega
  have sgo5 : go < w.heap.size + 1 + 1 + 1 + 1 + 1 := by omega
  have sgo6 : go < w.heap.size + 1 + 1 + 1 + 1 + 1 + 1 := by omega
  have sgf1 : gf < w.heap.size + 1 := by omega
  have sgf2 : gf < w.heap.size + 1 + 1 := by omega
  have sgf3 : gf < w.heap.size + 1 + 1 + 1 := by omega
  have sgf4 : gf < w.heap.size + 1 + 1 + 1 + 1 := by omega
  have sgf5 : gf < w.heap.size + 1 + 1 + 1 + 1 + 1 := by omega
  have sgf6 : gf < w.heap.size + 1 + 1 + 1 + 1 + 1 + 1 := by omega
  have slg1 : (bB + 1) < w.heap.size + 1 := by omega
  have slg2 : (bB + 1) < w.heap.size + 1 + 1 := by omega
  have slg3 : (bB + 1) < w.heap.size + 1 + 1 + 1 := by omega
  have slg4 : (bB + 1) < w.heap.size + 1 + 1 + 1 + 1 := by omega
  have slg5 : (bB + 1) < w.heap.size + 1 + 1 + 1 + 1 + 1 := by omega
  have slg6 : (bB + 1) < w.heap.size + 1 + 1 + 1 + 1 + 1 + 1 := by omega
  have sp1 : p < w.heap.size + 1 := by omega
  have sp2 : p < w.heap.size + 1 + 1 := by omega
  have sp3 : p < w.heap.size + 1 + 1 + 1 := by omega
  have sp4 : p < w.heap.size + 1 + 1 + 1 + 1 := by omega
  have sp5 : p < w.heap.size + 1 + 1 + 1 + 1 + 1 := by omega
  have sp6 : p < w.heap.size + 1 + 1 + 1 + 1 + 1 + 1 := by omega
  have spp1 : (p + 1) < w.heap.size + 1 := by omega
  have spp2 : (p + 1) < w.heap.size + 1 + 1 := by omega
  have spp3 : (p + 1) < w.heap.size + 1 + 1 + 1 := by omega
  have spp4 : (p + 1) < w.heap.size + 1 + 1 + 1 + 1 := by omega
  have spp5 : (p + 1) < w.heap.size + 1 + 1 + 1 + 1 + 1 := by omega
  have spp6 : (p + 1) < w.heap.size + 1 + 1 + 1 + 1 + 1 + 1 := by omega
  have n1 : ¬ bB = gr := by omega
  have n2 : ¬ bB = go := by omega
  have n3 : ¬ bB = gf := by omega
  have n4 : ¬ bB = bB + 1 := by omega
  have n5 : ¬ bB + 1 = gr := by omega
  have n6 : ¬ bB + 1 = gf := by omega
  have n7 : ¬ bB = p := by omega
  have n8 : ¬ bB = p + 1 := by omega
  have hwr : IntKind.i64.wrap ((col : Int) - t) = (col : Int) - t := by
    simp only [IntKind.wrap, IntKind.bits, IntKind.signed]
    simp
    omega
  have i1 : (col : Int) < (no : Int) := by omega
  have i2 : (jn : Int) < (nr : Int) := by omega
  have i3 : (jn : Int) < (nf : Int) := by omega
  go_enter Yba.func6, Yba.ntmps6
  go_wp2_with (fail)
  go_region_held3 (fun w' => w'.cell? ⟨bB, 0, none⟩ = some (.slice (some ⟨gr, 0, none⟩) nr cr) ∧ w'.cell? ⟨gr, jn * 6 + 1, none⟩ = some (.func (.func 7) #[] #[.pointer (some ⟨p + 1, 0, none⟩), .pointer (some ⟨p, 0, none⟩)]) ∧ w'.cell? ⟨bB, 2, none⟩ = some (.slice (some ⟨gf, 0, none⟩) nf cf) ∧ w'.cell? ⟨gf, jn, none⟩ = some (.int .i64 t)) (simp [go_sem, *])
    (first
      | (go_at_call 7; go_must (refine (clo_any _ (p + 1) p (bB + 1) (col - t) jn ?_ ?_ ?_ ?_ ?_ ?_ ?_ ?_ ?_ ?_ ?_ ?_ ?_ ?_ ?_).mono ?_); go_must (simp [go_sem, *]); go_must (simp [go_sem, *]);  go_must (simp [go_sem, *]);  go_must (simp [go_sem, *]);  go_must (simp [go_sem, *]);  go_must (simp [go_sem, *]);  go_must (simp; omega);  go_must (simp; omega);  go_must (simp; omega);  go_must (omega);  go_must (omega);  go_must (omega);  go_must (omega);  go_must (omega);  go_must (omega);  go_must (rintro e w' ⟨rfl, c1', c2', z1, z2, o1, o2, rfl⟩); go_must (simp only [statV])))
  go_wp2
  refine bodyPost_ret (v := .tuple #[.agg #[.int .i64 (jn * 1000 + (col - t)), .int .u8 0, .int .i64 0, .int .i64 0, .pointer none, .int .i32 0, .string ⟨#[]⟩, .int .u8 0, .int .i64 0, .int .i64 0, .pointer none, .int .i32 0, .string ⟨#[]⟩], .bool ((jn : Int) % 2 == 0)]) (by simp [results, Yba.results6, go_sem]) rfl ?_
  exact ⟨rfl, _, _, _, _, _, _, rfl⟩

/-- What is known behind 'stats'. -/
structure After (w w' : World) (bB : Nat) (start : Int) (j : Int) (x : Int) : Prop where
  bel : Below bB w w'
  r : w'.cell? ⟨bB, 4, none⟩ = some (.int .i64 (wrap64 (start + 1)))
  wt : w'.cell? ⟨bB, 3, none⟩ = some (.int .i64 0)
  ks : ∃ g c, w'.cell? ⟨bB + 1, 0, none⟩ = some (.slice (some ⟨g, 0, none⟩) 1 c) ∧ w'.cell? ⟨g, 0, none⟩ = some (.int .i64 j) ∧ g < w'.heap.size
  is : ∃ g c, w'.cell? ⟨bB + 1, 1, none⟩ = some (.slice (some ⟨g, 0, none⟩) 1 c) ∧ w'.cell? ⟨g, 0, none⟩ = some (.int .i64 x) ∧ g < w'.heap.size
  sz : bB + 1 < w'.heap.size

theorem head_get (x : Value) (z : Array Value) : (#[x] ++ z)[0]? = some x := by simp [Array.getElem?_append]

theorem after_mk (w : World) (bB : Nat) (start : Int) (jn col : Nat) (t : Int) (c1' c2' : Nat) (z1 z2 o1 o2 : Array Value) (kB : bB + 1 < w.heap.size) (c3 : w.cell? ⟨bB, 3, none⟩ = some (.int .i64 0)) (c4 : w.cell? ⟨bB, 4, none⟩ = some (.int .i64 start))
    (l0 : w.cell? ⟨bB + 1, 0, none⟩ = some (.slice none 0 0)) (l1 : w.cell? ⟨bB + 1, 1, none⟩ = some (.slice none 0 0)) :
    After w ((((((((((w.setCell ⟨bB, 4, none⟩ (.int .i64 (wrap64 (start + 1)))).setCell ⟨bB + 1, 0, none⟩ (.slice (some ⟨w.heap.size + 1 + 1 + 1, 0, none⟩) 1 c1')).setCell ⟨bB + 1, 1, none⟩ (.slice (some ⟨w.heap.size + 1 + 1 + 1 + 1 + 1, 0, none⟩) 1 c2')).alloc (.cells (statV (jn * 1000 + (col - t))) 50)).alloc (.cells (statV (jn * 1000 + (col - t))) 50)).alloc (.cells o1 3)).alloc (.cells (#[.int .i64 jn] ++ z1) 3)).alloc (.cells o2 3)).alloc (.cells (#[.int .i64 (col - t)] ++ z2) 3)).drew.drew.drew.drew.drew.drew) bB start jn (col - t) := by
  have hB : bB < w.heap.size := by omega
  have b6 : ∀ (u : World) (a1 a2 a3 a4 a5 a6 : Obj), Below u.heap.size u ((((((u.alloc a1).alloc a2).alloc a3).alloc a4).alloc a5).alloc a6).drew.drew.drew.drew.drew.drew := fun u a1 a2 a3 a4 a5 a6 => (((((((Below.refl _ u).alloc (Nat.le_refl _) _).alloc (by simp) _).alloc (by simp; omega) _).alloc (by simp; omega) _).alloc (by simp; omega) _).alloc (by simp; omega) _).drew.drew.drew.drew.drew.drew
  generalize hu : ((w.setCell ⟨bB, 4, none⟩ (.int .i64 (wrap64 (start + 1)))).setCell ⟨bB + 1, 0, none⟩ (.slice (some ⟨w.heap.size + 1 + 1 + 1, 0, none⟩) 1 c1')).setCell ⟨bB + 1, 1, none⟩ (.slice (some ⟨w.heap.size + 1 + 1 + 1 + 1 + 1, 0, none⟩) 1 c2') = u
  have us : u.heap.size = w.heap.size := by rw [← hu]; simp [World.setCell]
  have ub : Below bB w u := by
    rw [← hu]
    exact (((Below.refl _ _).setCell (p := ⟨bB, 4, none⟩) (Nat.le_refl _) _).setCell (p := ⟨bB + 1, 0, none⟩) (by show bB ≤ bB + 1; omega) _).setCell (p := ⟨bB + 1, 1, none⟩) (by show bB ≤ bB + 1; omega) _
  have u4 : u.cell? ⟨bB, 4, none⟩ = some (.int .i64 (wrap64 (start + 1))) := by
    rw [← hu, World.cell?_setCell_far _ ⟨bB + 1, 1, none⟩ _ _ (by show bB + 1 ≠ bB; omega), World.cell?_setCell_far _ ⟨bB + 1, 0, none⟩ _ _ (by show bB + 1 ≠ bB; omega), World.cell?_setCell_same _ _ _ c4]
  have u3 : u.cell? ⟨bB, 3, none⟩ = some (.int .i64 0) := by
    rw [← hu, World.cell?_setCell_far _ ⟨bB + 1, 1, none⟩ _ _ (by show bB + 1 ≠ bB; omega), World.cell?_setCell_far _ ⟨bB + 1, 0, none⟩ _ _ (by show bB + 1 ≠ bB; omega), World.cell?_setCell_other _ _ _ _ (by simp)]
    exact c3
  have v0 : (w.setCell ⟨bB, 4, none⟩ (.int .i64 (wrap64 (start + 1)))).cell? ⟨bB + 1, 0, none⟩ = some (.slice none 0 0) := by rw [World.cell?_setCell_far _ ⟨bB, 4, none⟩ _ _ (by show bB ≠ bB + 1; omega)]; exact l0
  have v1 : (w.setCell ⟨bB, 4, none⟩ (.int .i64 (wrap64 (start + 1)))).cell? ⟨bB + 1, 1, none⟩ = some (.slice none 0 0) := by rw [World.cell?_setCell_far _ ⟨bB, 4, none⟩ _ _ (by show bB ≠ bB + 1; omega)]; exact l1
  have ul0 : u.cell? ⟨bB + 1, 0, none⟩ = some (.slice (some ⟨w.heap.size + 1 + 1 + 1, 0, none⟩) 1 c1') := by
    rw [← hu, World.cell?_setCell_other _ _ _ _ (by simp), World.cell?_setCell_same _ _ _ v0]
  have ul1 : u.cell? ⟨bB + 1, 1, none⟩ = some (.slice (some ⟨w.heap.size + 1 + 1 + 1 + 1 + 1, 0, none⟩) 1 c2') := by
    rw [← hu, World.cell?_setCell_same (u := .slice none 0 0)]
    rw [World.cell?_setCell_other _ _ _ _ (by simp)]
    exact v1
  have hb := b6 u (.cells (statV (jn * 1000 + (col - t))) 50) (.cells (statV (jn * 1000 + (col - t))) 50) (.cells o1 3) (.cells (#[.int .i64 jn] ++ z1) 3) (.cells o2 3) (.cells (#[.int .i64 (col - t)] ++ z2) 3)
  refine ⟨ub.trans (hb.mono (by rw [us]; omega)), ?_, ?_, ⟨w.heap.size + 1 + 1 + 1, c1', ?_, ?_, ?_⟩, ⟨w.heap.size + 1 + 1 + 1 + 1 + 1, c2', ?_, ?_, ?_⟩, ?_⟩
  · rw [hb.cell (p := ⟨bB, 4, none⟩) (by rw [us]; exact hB)]; exact u4
  · rw [hb.cell (p := ⟨bB, 3, none⟩) (by rw [us]; exact hB)]; exact u3
  · rw [hb.cell (p := ⟨bB + 1, 0, none⟩) (by rw [us]; exact kB)]; exact ul0
  · rw [← us]
    simp [go_sem]
    exact head_get _ _
  · rw [← us]; simp
  · rw [hb.cell (p := ⟨bB + 1, 1, none⟩) (by rw [us]; exact kB)]; exact ul1
  · rw [← us]
    simp [go_sem]
    exact head_get _ _
  · rw [← us]; simp
  · simp; omega
end Go.Proofs.Ybulkbug
