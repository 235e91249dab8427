import Derived.Test.YbulkbugC
namespace Go.Proofs.Ybulkbug
open Go.RowKit
open Go.WideShapes (add_plain)

theorem relC_one (p : Nat) : ∀ u ∈ relC p, u.oneCell' = true := by
  intro u hu
  simp only [relC, List.mem_cons, List.not_mem_nil, or_false] at hu
  rcases hu with rfl | rfl | rfl | rfl | rfl | rfl <;> rfl

/-- The step that an append through a field of b is: a draw and some new blocks, the row, the field's cell. -/
theorem step_mk {bB off : Nat} {row : Option Nat} {w wa w1 : World} {v' : Value} (hba : Below w.heap.size w wa) (hg : wa.grownBy w1 row) (hB : bB < w.heap.size) (hrow : row ≠ some bB) :
    Step bB off row w (w1.setCell ⟨bB, off, none⟩ v') := by
  have hlt : bB < wa.heap.size := Nat.lt_of_lt_of_le hB hba.size
  have e1 : w1.heap[bB]? = w.heap[bB]? := (hg.block bB hlt (fun e => hrow e.symm)).trans (hba.block bB hB)
  refine ⟨?_, fun x hx hne hr => ?_, fun o ho => ?_, fun o => ?_⟩
  · have h1 := hba.size
    have h2 := hg.size
    have : (w1.setCell ⟨bB, off, none⟩ v').heap.size = w1.heap.size := by simp [World.setCell]
    omega
  · rw [Below.heap_setCell _ _ _ _ hne, hg.block x (Nat.lt_of_lt_of_le hx hba.size) hr, hba.block x hx]
  · rw [World.cell?_setCell_other _ _ _ _ (by intro e; apply ho; cases e; rfl)]
    exact World.cell?_of_block (a := ⟨bB, o, none⟩) e1
  · rw [World.frozen?_setCell]
    exact World.frozen?_of_block (a := ⟨bB, o, none⟩) e1

theorem newRow_cells (w : World) (o : Obj) (l : List Value) (t : TypeId) : ∀ j u, l[j]? = some u → ((w.alloc o).alloc (.cells l.toArray t)).cell? ((⟨w.heap.size + 1, 0, none⟩ : Addr).add j) = some u := by
  intro j u hu
  rw [add_plain, Nat.zero_add]
  have := World.cell?_alloc_new (w.alloc o) l.toArray t j
  simp only [World.size_alloc] at this
  rw [this]
  simpa using hu
theorem newRow_cells1 (w : World) (l : List Value) (t : TypeId) : ∀ j u, l[j]? = some u → (w.alloc (.cells l.toArray t)).cell? ((⟨w.heap.size, 0, none⟩ : Addr).add j) = some u := by
  intro j u hu
  rw [add_plain, Nat.zero_add]
  have := World.cell?_alloc_new w l.toArray t j
  rw [this]
  simpa using hu

theorem below_step {bB off : Nat} {row : Option Nat} {w wa w1 : World} {v' : Value} (hba : Below w.heap.size w wa) (hg : wa.grownBy w1 row) (hB : bB < w.heap.size) (hrow : ∀ k, row = some k → bB < k) : Below bB w (w1.setCell ⟨bB, off, none⟩ v') :=
  (((hba.mono (Nat.le_of_lt hB)).trans ⟨hg.os, hg.tape, hg.output, hg.size, fun k hk => hg.block k (by have := hba.size; omega) (fun e => by have := hrow k e.symm; omega)⟩)).setCell (p := ⟨bB, off, none⟩) (Nat.le_refl _) _

section
variable {w wa w' : World} {bB : Nat} {ar ao af : Option Addr} {cr co cf : Nat} {start : Int} {ps : List Nat} {os fs : List Int} {g cap : Nat}

theorem after_r (H : BS w bB ar ao af cr co cf start ps os fs) {p : Nat} (Hp : bB + 1 < p ∧ p + 1 < w.heap.size ∧ w.cell? ⟨p, 0, none⟩ = some (.int .i64 (ps.length : Nat)) ∧ w.cell? ⟨p + 1, 0, none⟩ = some (.pointer (some ⟨bB + 1, 0, none⟩)) ∧ Apart ar ao af p ∧ Apart ar ao af (p + 1))
    (hba : Below w.heap.size w wa) (hown : w'.ownsRow (bB + 2) 42 6 (.slice (some ⟨g, 0, none⟩) (ps.length + 1) cap) (ps.length + 1) (relsV ps ++ relC p)) (hgrow : wa.grownBy w' (Value.slice ar ps.length cr).ownBlock) (hat : (Value.slice ar ps.length cr).ownBlock = some g ∨ g = wa.heap.size) :
    BS (w'.setCell ⟨bB, 0, none⟩ (.slice (some ⟨g, 0, none⟩) (ps.length + 1) cap)) bB (some ⟨g, 0, none⟩) ao af cap co cf start (ps ++ [p]) os fs ∧ Below bB w (w'.setCell ⟨bB, 0, none⟩ (.slice (some ⟨g, 0, none⟩) (ps.length + 1) cap)) := by
  rw [ownBlock_slice] at hgrow hat
  have hB : bB < w.heap.size := by have := H.sz; omega
  have hr : ∀ k, blk ar = some k → bB < k := fun k e => by have := H.rlt e; omega
  have hne : some bB ≠ blk ar := fun e => by have := hr bB e.symm; omega
  have hc : w'.cell? ⟨bB, 0, none⟩ = some (.slice ar ps.length cr) := hgrow.cell (a := ⟨bB, 0, none⟩) (by rw [hba.cell (p := ⟨bB, 0, none⟩) hB]; exact H.c0) hne
  refine ⟨H.step_r (step_mk hba hgrow hB (Ne.symm hne)) (World.cell?_setCell_same _ _ _ hc) (ownsRow_setCell_below hown (a := ⟨bB, 0, none⟩) (by show bB < bB + 2; omega) _) ?_ Hp, below_step hba hgrow hB hr⟩
  rcases hat with h | h
  · exact .inl h
  · right; rw [h]; exact hba.size
theorem after_o (H : BS w bB ar ao af cr co cf start ps os fs) {x : Int}
    (hba : Below w.heap.size w wa) (hown : w'.ownsRow (bB + 2) 3 1 (.slice (some ⟨g, 0, none⟩) (os.length + 1) cap) (os.length + 1) (i64s os ++ [.int .i64 x])) (hgrow : wa.grownBy w' (Value.slice ao os.length co).ownBlock) (hat : (Value.slice ao os.length co).ownBlock = some g ∨ g = wa.heap.size) :
    BS (w'.setCell ⟨bB, 1, none⟩ (.slice (some ⟨g, 0, none⟩) (os.length + 1) cap)) bB ar (some ⟨g, 0, none⟩) af cr cap cf start ps (os ++ [x]) fs ∧ Below bB w (w'.setCell ⟨bB, 1, none⟩ (.slice (some ⟨g, 0, none⟩) (os.length + 1) cap)) := by
  rw [ownBlock_slice] at hgrow hat
  have hB : bB < w.heap.size := by have := H.sz; omega
  have hr : ∀ k, blk ao = some k → bB < k := fun k e => by have := H.olt e; omega
  have hne : some bB ≠ blk ao := fun e => by have := hr bB e.symm; omega
  have hc : w'.cell? ⟨bB, 1, none⟩ = some (.slice ao os.length co) := hgrow.cell (a := ⟨bB, 1, none⟩) (by rw [hba.cell (p := ⟨bB, 1, none⟩) hB]; exact H.c1) hne
  refine ⟨H.step_o (step_mk hba hgrow hB (Ne.symm hne)) (World.cell?_setCell_same _ _ _ hc) (ownsRow_setCell_below hown (a := ⟨bB, 1, none⟩) (by show bB < bB + 2; omega) _) ?_, below_step hba hgrow hB hr⟩
  rcases hat with h | h
  · exact .inl h
  · right; rw [h]; exact hba.size
theorem after_f (H : BS w bB ar ao af cr co cf start ps os fs) {x : Int}
    (hba : Below w.heap.size w wa) (hown : w'.ownsRow (bB + 2) 3 1 (.slice (some ⟨g, 0, none⟩) (fs.length + 1) cap) (fs.length + 1) (i64s fs ++ [.int .i64 x])) (hgrow : wa.grownBy w' (Value.slice af fs.length cf).ownBlock) (hat : (Value.slice af fs.length cf).ownBlock = some g ∨ g = wa.heap.size) :
    BS (w'.setCell ⟨bB, 2, none⟩ (.slice (some ⟨g, 0, none⟩) (fs.length + 1) cap)) bB ar ao (some ⟨g, 0, none⟩) cr co cap start ps os (fs ++ [x]) ∧ Below bB w (w'.setCell ⟨bB, 2, none⟩ (.slice (some ⟨g, 0, none⟩) (fs.length + 1) cap)) := by
  rw [ownBlock_slice] at hgrow hat
  have hB : bB < w.heap.size := by have := H.sz; omega
  have hr : ∀ k, blk af = some k → bB < k := fun k e => by have := H.flt e; omega
  have hne : some bB ≠ blk af := fun e => by have := hr bB e.symm; omega
  have hc : w'.cell? ⟨bB, 2, none⟩ = some (.slice af fs.length cf) := hgrow.cell (a := ⟨bB, 2, none⟩) (by rw [hba.cell (p := ⟨bB, 2, none⟩) hB]; exact H.c2) hne
  refine ⟨H.step_f (step_mk hba hgrow hB (Ne.symm hne)) (World.cell?_setCell_same _ _ _ hc) (ownsRow_setCell_below hown (a := ⟨bB, 2, none⟩) (by show bB < bB + 2; omega) _) ?_, below_step hba hgrow hB hr⟩
  rcases hat with h | h
  · exact .inl h
  · right; rw [h]; exact hba.size
/-- The field's cell, ahead of its store. -/
theorem field_kept (hba : Below w.heap.size w wa) {n : Nat} {a : Option Addr} {c : Nat} (hgrow : wa.grownBy w' (Value.slice a n c).ownBlock) (hB : bB < w.heap.size) (hr : ∀ k, blk a = some k → bB < k) (o : Nat) : w'.cell? ⟨bB, o, none⟩ = w.cell? ⟨bB, o, none⟩ ∧ w'.frozen? ⟨bB, o, none⟩ = w.frozen? ⟨bB, o, none⟩ := by
  rw [ownBlock_slice] at hgrow
  have hne : some bB ≠ blk a := fun e => by have := hr bB e.symm; omega
  have e1 : w'.heap[bB]? = w.heap[bB]? := (hgrow.block bB (Nat.lt_of_lt_of_le hB hba.size) hne).trans (hba.block bB hB)
  exact ⟨World.cell?_of_block (a := ⟨bB, o, none⟩) e1, World.frozen?_of_block (a := ⟨bB, o, none⟩) e1⟩
end

set_option maxRecDepth 100000 in
set_option maxHeartbeats 2000000 in
theorem add_any (w : World) (bB : Nat) (ar ao af : Option Addr) (cr co cf : Nat) (start : Int) (ps : List Nat) (os fs : List Int) (p wd : Nat) (h : BS w bB ar ao af cr co cf start ps os fs)
    (hp : bB + 1 < p ∧ p + 1 < w.heap.size ∧ w.cell? ⟨p, 0, none⟩ = some (.int .i64 (ps.length : Nat)) ∧ w.cell? ⟨p + 1, 0, none⟩ = some (.pointer (some ⟨bB + 1, 0, none⟩)) ∧ Apart ar ao af p ∧ Apart ar ao af (p + 1))
    (hwd : wd ≤ 4) (hn : ps.length ≤ 1000) (ho : os.length ≤ 10000) (hf : fs.length ≤ 1000) :
    Calls Yba.prog 4 #[.pointer (some ⟨bB, 0, none⟩), .agg (relC p).toArray, .int .i64 wd] w fun e w' => e = .returned (.tuple #[]) ∧
      ∃ ar' ao' af' cr' co' cf', BS w' bB ar' ao' af' cr' co' cf' start (ps ++ [p]) (os ++ List.replicate wd (ps.length : Int)) (fs ++ [(os.length : Int)]) ∧ Below bB w w' := by
  obtain ⟨i3, hi3, hz30, hz31, hz32⟩ := info_parts Yba.info3
  obtain ⟨i42, hi42, hz420, hz421, hz422⟩ := info_parts Yba.info42
  have H : Hid (BS w bB ar ao af cr co cf start ps os fs) := h
  have Hp : Hid (bB + 1 < p ∧ p + 1 < w.heap.size ∧ w.cell? ⟨p, 0, none⟩ = some (.int .i64 (ps.length : Nat)) ∧ w.cell? ⟨p + 1, 0, none⟩ = some (.pointer (some ⟨bB + 1, 0, none⟩)) ∧ Apart ar ao af p ∧ Apart ar ao af (p + 1)) := hp
  have c0 := h.c0
  have hsz := h.sz
  have hB : bB < w.heap.size := by omega
  have hB1 : bB < w.heap.size + 1 := by omega
  have hB2 : bB < w.heap.size + 1 + 1 := by omega
  have Hz : Hid (relC p = [.nilIface, fnV p, .bool false, .int .i64 0, .float .f64 0, .string ⟨#[]⟩]) := rfl
  rw [Hz.out]
  clear h hp
  go_enter Yba.func4, Yba.ntmps4
  go_wp2_with (fail)
  go_cut [] (fun w' => ∃ g cap, BS w' bB (some ⟨g, 0, none⟩) ao af cap co cf start (ps ++ [p]) os fs ∧ Below bB w w')
  case first =>
    go_region_law (refine step_append_own rfl (.tmp 16) (.tmp 18) 25 rfl (bB + 2) 42 i42 (.agg relZ) 6 64 Yba.underlying25 hi42 hz420 hz421 hz422 rfl (by decide) (.slice ar ps.length cr) ps.length (relsV ps) rfl ?_ ⟨w.heap.size + 1, 0, none⟩ 1 1 (relC p) rfl rfl ?_ (relC_one p) (by decide) ?_ ?_ ?_ ?_; exact ((H.out.or.alloc _).alloc _); exact newRow_cells _ _ _ _; (unfold maxLen; omega); omega; (simp; omega); intro g cap w' hown hgrow hat; have hba := (((Below.refl w.heap.size w).alloc (Nat.le_refl _) (.cells (relC p).toArray 42)).alloc (by simp) (.cells (relC p).toArray 42)).drew; have kf := field_kept hba hgrow hB (fun k e => by have := H.out.rlt e; omega) 0; have kc := kf.1; have kz := kf.2; rw [c0] at kc; rw [H.out.fz] at kz; clear kf)
    all_goals
      go_wp2_with (fail)
      go_meet
      exact ⟨g, cap, after_r H.out Hp.out hba hown hgrow hat⟩
  case rest =>
    obtain ⟨g, cap, hS, hbel⟩ := hcut
    have H1 : Hid (BS wc bB (some ⟨g, 0, none⟩) ao af cap co cf start (ps ++ [p]) os fs) := hS
    have Hb1 : Hid (Below bB w wc) := hbel
    have d1 := hS.c1
    have d2 := hS.c2
    have hBc : bB < wc.heap.size := by have := hS.sz; omega
    have hszc := hS.sz
    clear hS hbel c0 H Hp hB1 hB2 hsz
    go_wp2_with (fail)
    go_cut [] (fun w' => ∃ g' cap', BS w' bB (some ⟨g, 0, none⟩) ao (some ⟨g', 0, none⟩) cap co cap' start (ps ++ [p]) os (fs ++ [(os.length : Int)]) ∧ Below bB w w')
    case first =>
      go_region_law (refine step_append_own rfl (.tmp 26) (.tmp 32) 26 rfl (bB + 2) 3 i3 (.int .i64 0) 1 8 Yba.underlying26 hi3 hz30 hz31 hz32 rfl (by decide) (.slice af fs.length cf) fs.length (i64s fs) rfl ?_ ⟨wc.heap.size, 0, none⟩ 1 1 [.int .i64 (os.length : Int)] rfl rfl ?_ ?_ (by decide) ?_ ?_ ?_ ?_; exact (H1.out.of.alloc _); exact newRow_cells1 _ _ _; (intro u hu; simp at hu; subst hu; rfl); (unfold maxLen; omega); omega; (simp; omega); intro g' cap' w' hown hgrow hat; have hba := ((Below.refl wc.heap.size wc).alloc (Nat.le_refl _) (.cells [Value.int .i64 (os.length : Int)].toArray 3)).drew; have kf := field_kept hba hgrow hBc (fun k e => by have := H1.out.flt e; omega) 2; have kc := kf.1; have kz := kf.2; rw [d2] at kc; rw [H1.out.fz] at kz; clear kf)
      all_goals
        go_wp2_with (fail)
        go_meet
        have hh := after_f H1.out hba hown hgrow hat
        exact ⟨g', cap', hh.1, Hb1.out.trans hh.2⟩
    case rest =>
      obtain ⟨g', cap', hS, hbel⟩ := hcut
      have hS' : BS wc bB (some ⟨g, 0, none⟩) ao (some ⟨g', 0, none⟩) cap co cap' start (ps ++ [p]) (os ++ List.replicate 0 (ps.length : Int)) (fs ++ [(os.length : Int)]) := by simpa using hS
      have H2 : Hid (BS wc bB (some ⟨g, 0, none⟩) ao (some ⟨g', 0, none⟩) cap co cap' start (ps ++ [p]) (os ++ List.replicate 0 (ps.length : Int)) (fs ++ [(os.length : Int)])) := hS'
      have Hb2 : Hid (Below bB w wc) := hbel
      clear hS hS' hbel H1 Hb1 d1 d2 hBc hszc
      go_wp2_with (fail)
      go_loopw [37] (fun c w' => ∃ (k : Nat) (ao' : Option Addr) (co' : Nat), k ≤ wd ∧ c = .int .i64 k ∧ BS w' bB (some ⟨g, 0, none⟩) ao' (some ⟨g', 0, none⟩) cap co' cap' start (ps ++ [p]) (os ++ List.replicate k (ps.length : Int)) (fs ++ [(os.length : Int)]) ∧ Below bB w w') (fun c _ => wd - (intOf c).toNat)
      case atStart => exact ⟨0, ao, co, Nat.zero_le _, rfl, H2.out, Hb2.out⟩
      case round =>
        obtain ⟨k, ao', co', hk, rfl, hS, hbel⟩ := hrel
        have hL : (os ++ List.replicate k (ps.length : Int)).length = os.length + k := by simp
        have H3 : Hid (BS wr bB (some ⟨g, 0, none⟩) ao' (some ⟨g', 0, none⟩) cap co' cap' start (ps ++ [p]) (os ++ List.replicate k (ps.length : Int)) (fs ++ [(os.length : Int)])) := hS
        have Hb3 : Hid (Below bB w wr) := hbel
        have HL : Hid ((os ++ List.replicate k (ps.length : Int)).length = os.length + k) := hL
        have d1 := hS.c1
        rw [hL] at d1
        have hszc := hS.sz
        clear hS hbel hL
        by_cases hlt : k < wd
        · go_wp2_with (at_builtin; refine wp_append_own rfl _ _ 26 rfl (bB + 2) 3 i3 (.int .i64 0) 1 8 Yba.underlying26 hi3 hz30 hz31 hz32 rfl (by decide) (.slice ao' (os.length + k) co') (os.length + k) (i64s (os ++ List.replicate k (ps.length : Int))) rfl ?ho ⟨wr.heap.size, 0, none⟩ 1 1 [.int .i64 (ps.length : Int)] rfl rfl ?hc ?ho1 (by decide) ?b1 ?b2 ?base ?_)
          case ho =>
            have := H3.out.oo.alloc (.cells #[.int .i64 (ps.length : Int)] 3)
            rw [HL.out] at this
            exact this
          case hc => exact newRow_cells1 _ _ _
          case ho1 => intro u hu; simp at hu; subst hu; rfl
          case b1 => unfold maxLen; omega
          case b2 => omega
          case base => simp; omega
          intro g2 cap2 w2 hown hgrow hat
          have hba : Below wr.heap.size wr (wr.alloc (.cells #[.int .i64 (ps.length : Int)] 3)) := (Below.refl wr.heap.size wr).alloc (Nat.le_refl _) _
          have kf := field_kept (bB := bB) hba hgrow (by omega) (fun k e => by have := H3.out.olt e; omega) 1
          have kc := kf.1
          have kz := kf.2
          rw [d1] at kc
          rw [H3.out.fz] at kz
          have hh : BS (w2.setCell ⟨bB, 1, none⟩ (.slice (some ⟨g2, 0, none⟩) (os.length + k + 1) cap2)) bB (some ⟨g, 0, none⟩) (some ⟨g2, 0, none⟩) (some ⟨g', 0, none⟩) cap cap2 cap' start (ps ++ [p]) (os ++ List.replicate (k + 1) (ps.length : Int)) (fs ++ [(os.length : Int)]) ∧ Below bB wr (w2.setCell ⟨bB, 1, none⟩ (.slice (some ⟨g2, 0, none⟩) (os.length + k + 1) cap2)) := by
            have := after_o (x := (ps.length : Int)) (g := g2) (cap := cap2) (w' := w2) H3.out hba (by rw [HL.out]; exact hown) (by rw [HL.out]; exact hgrow) (by rw [HL.out]; simpa using hat)
            rw [HL.out] at this
            rw [List.replicate_succ', ← List.append_assoc]
            exact this
          have Hh : Hid (BS (w2.setCell ⟨bB, 1, none⟩ (.slice (some ⟨g2, 0, none⟩) (os.length + k + 1) cap2)) bB (some ⟨g, 0, none⟩) (some ⟨g2, 0, none⟩) (some ⟨g', 0, none⟩) cap cap2 cap' start (ps ++ [p]) (os ++ List.replicate (k + 1) (ps.length : Int)) (fs ++ [(os.length : Int)]) ∧ Below bB wr (w2.setCell ⟨bB, 1, none⟩ (.slice (some ⟨g2, 0, none⟩) (os.length + k + 1) cap2))) := hh
          clear hh kf hown hgrow hat
          go_wp2
          go_roundw
          case rel => exact ⟨k + 1, _, _, by omega, by go_num, Hh.out.1, Hb3.out.trans Hh.out.2⟩
          case measure => simp [intOf]; omega
        · have hkw : k = wd := by omega
          have Hk : Hid (k = wd) := hkw
          clear hkw
          go_wp2
          go_end0
          exact ⟨rfl, _, _, _, _, _, _, Hk.out ▸ H3.out, Hb3.out⟩
end Go.Proofs.Ybulkbug
