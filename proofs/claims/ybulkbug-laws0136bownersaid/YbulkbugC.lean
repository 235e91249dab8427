import Derived.Test.YbulkbugA
namespace Go.Proofs.Ybulkbug
open Go.RowKit
open Go.WideShapes (add_plain)

/-- The closure that 'zzs0136bmk' made over the boxes p (k) and p + 1 (lg). -/
def fnV (p : Nat) : Value := .func (.func 7) #[] #[.pointer (some ⟨p + 1, 0, none⟩), .pointer (some ⟨p, 0, none⟩)]
def relC (p : Nat) : List Value := [.nilIface, fnV p, .bool false, .int .i64 0, .float .f64 0, .string ⟨#[]⟩]
def relsV (ps : List Nat) : List Value := ps.flatMap relC
def i64s (l : List Int) : List Value := l.map (Value.int .i64)
theorem relsV_snoc (ps : List Nat) (p : Nat) : relsV (ps ++ [p]) = relsV ps ++ relC p := by simp [relsV]
theorem i64s_snoc (l : List Int) (x : Int) : i64s (l ++ [x]) = i64s l ++ [.int .i64 x] := by simp [i64s]

def blk (a : Option Addr) : Option Nat := a.map (·.block)
theorem ownBlock_slice (a : Option Addr) (n c : Nat) : (Value.slice a n c).ownBlock = blk a := by cases a <;> rfl

def Apart (ar ao af : Option Addr) (x : Nat) : Prop := blk ar ≠ some x ∧ blk ao ≠ some x ∧ blk af ≠ some x

/-- The block that the law builds, and what it leads to: b lies at bB, lg at bB + 1. -/
structure BS (w : World) (bB : Nat) (ar ao af : Option Addr) (cr co cf : Nat) (start : Int) (ps : List Nat) (os fs : List Int) : Prop where
  sz : bB + 1 < w.heap.size
  c0 : w.cell? ⟨bB, 0, none⟩ = some (.slice ar ps.length cr)
  c1 : w.cell? ⟨bB, 1, none⟩ = some (.slice ao os.length co)
  c2 : w.cell? ⟨bB, 2, none⟩ = some (.slice af fs.length cf)
  c3 : w.cell? ⟨bB, 3, none⟩ = some (.int .i64 0)
  c4 : w.cell? ⟨bB, 4, none⟩ = some (.int .i64 start)
  fz : ∀ o, w.frozen? ⟨bB, o, none⟩ = false
  fl : ∀ o, w.frozen? ⟨bB + 1, o, none⟩ = false
  l0 : w.cell? ⟨bB + 1, 0, none⟩ = some (.slice none 0 0)
  l1 : w.cell? ⟨bB + 1, 1, none⟩ = some (.slice none 0 0)
  or : w.ownsRow (bB + 2) 42 6 (.slice ar ps.length cr) ps.length (relsV ps)
  oo : w.ownsRow (bB + 2) 3 1 (.slice ao os.length co) os.length (i64s os)
  of : w.ownsRow (bB + 2) 3 1 (.slice af fs.length cf) fs.length (i64s fs)
  clo : ∀ j p, ps[j]? = some p → bB + 1 < p ∧ p + 1 < w.heap.size ∧ w.cell? ⟨p, 0, none⟩ = some (.int .i64 (j : Nat)) ∧ w.cell? ⟨p + 1, 0, none⟩ = some (.pointer (some ⟨bB + 1, 0, none⟩)) ∧ Apart ar ao af p ∧ Apart ar ao af (p + 1)
  s1 : blk ar = none ∨ blk ar ≠ blk ao
  s2 : blk ar = none ∨ blk ar ≠ blk af
  s3 : blk ao = none ∨ blk ao ≠ blk af

/-- What a step that turns at most one row and one cell of b leaves as it was. -/
structure Step (bB off : Nat) (row : Option Nat) (w w2 : World) : Prop where
  size : w.heap.size ≤ w2.heap.size
  bl : ∀ x, x < w.heap.size → x ≠ bB → some x ≠ row → w2.heap[x]? = w.heap[x]?
  cell : ∀ o, o ≠ off → w2.cell? ⟨bB, o, none⟩ = w.cell? ⟨bB, o, none⟩
  fz : ∀ o, w2.frozen? ⟨bB, o, none⟩ = w.frozen? ⟨bB, o, none⟩

theorem Step.cellAt {bB off : Nat} {row : Option Nat} {w w2 : World} (h : Step bB off row w w2) {x o : Nat} (hx : x < w.heap.size) (h1 : x ≠ bB) (h2 : some x ≠ row) : w2.cell? ⟨x, o, none⟩ = w.cell? ⟨x, o, none⟩ :=
  World.cell?_of_block (a := ⟨x, o, none⟩) (h.bl x hx h1 h2)
theorem Step.fzAt {bB off : Nat} {row : Option Nat} {w w2 : World} (h : Step bB off row w w2) {x o : Nat} (hx : x < w.heap.size) (h1 : x ≠ bB) (h2 : some x ≠ row) : w2.frozen? ⟨x, o, none⟩ = w.frozen? ⟨x, o, none⟩ :=
  World.frozen?_of_block (a := ⟨x, o, none⟩) (h.bl x hx h1 h2)
theorem Step.own {bB off : Nat} {row : Option Nat} {w w2 : World} (h : Step bB off row w w2) {base : Nat} {e : TypeId} {size : Nat} {a : Option Addr} {n c : Nat} {xs : List Value} (ho : w.ownsRow base e size (.slice a n c) n xs) (hb : bB < base) (hne : blk a = none ∨ blk a ≠ row) : w2.ownsRow base e size (.slice a n c) n xs := by
  refine ⟨ho.1, ?_⟩
  rcases ho.2 with hn | ⟨g, cap, cur, hv, hbg, hgg, rest⟩
  · exact .inl hn
  · refine .inr ⟨g, cap, cur, hv, hbg, ?_, rest⟩
    have hbk : blk a = some g := by rw [← ownBlock_slice a n c, hv]; rfl
    rw [h.bl g (Array.getElem?_eq_some_iff.1 hgg).1 (by omega) ?_]
    · exact hgg
    · rcases hne with h | h
      · rw [hbk] at h; cases h
      · rw [hbk] at h; exact h

section
variable {w w2 : World} {bB : Nat} {ar ao af : Option Addr} {cr co cf : Nat} {start : Int} {ps : List Nat} {os fs : List Int}

theorem BS.rlt (h : BS w bB ar ao af cr co cf start ps os fs) {x : Nat} (hx : blk ar = some x) : bB + 2 ≤ x ∧ x < w.heap.size := h.or.lt x (by rw [ownBlock_slice]; exact hx)
theorem BS.olt (h : BS w bB ar ao af cr co cf start ps os fs) {x : Nat} (hx : blk ao = some x) : bB + 2 ≤ x ∧ x < w.heap.size := h.oo.lt x (by rw [ownBlock_slice]; exact hx)
theorem BS.flt (h : BS w bB ar ao af cr co cf start ps os fs) {x : Nat} (hx : blk af = some x) : bB + 2 ≤ x ∧ x < w.heap.size := h.of.lt x (by rw [ownBlock_slice]; exact hx)

/-- rels has grown by one. -/
theorem BS.step_r (h : BS w bB ar ao af cr co cf start ps os fs) (hs : Step bB 0 (blk ar) w w2) {g cap : Nat} {p : Nat} (hc0 : w2.cell? ⟨bB, 0, none⟩ = some (.slice (some ⟨g, 0, none⟩) (ps.length + 1) cap))
    (hown : w2.ownsRow (bB + 2) 42 6 (.slice (some ⟨g, 0, none⟩) (ps.length + 1) cap) (ps.length + 1) (relsV ps ++ relC p)) (hg : blk ar = some g ∨ w.heap.size ≤ g)
    (hp : bB + 1 < p ∧ p + 1 < w.heap.size ∧ w.cell? ⟨p, 0, none⟩ = some (.int .i64 (ps.length : Nat)) ∧ w.cell? ⟨p + 1, 0, none⟩ = some (.pointer (some ⟨bB + 1, 0, none⟩)) ∧ Apart ar ao af p ∧ Apart ar ao af (p + 1)) :
    BS w2 bB (some ⟨g, 0, none⟩) ao af cap co cf start (ps ++ [p]) os fs := by
  have hlg : some (bB + 1) ≠ blk ar := fun e => by have := h.rlt e.symm; omega
  have nw : ∀ x, x < w.heap.size → blk ar ≠ some x → blk (some (⟨g, 0, none⟩ : Addr)) ≠ some x := fun x hx a1 => by
    rcases hg with hg | hg
    · rw [hg] at a1; exact a1
    · show some g ≠ some x
      intro e; have := Option.some.inj e; omega
  have sep : ∀ a : Option Addr, (∀ x, blk a = some x → x < w.heap.size) → (blk ar = none ∨ blk ar ≠ blk a) → blk (some (⟨g, 0, none⟩ : Addr)) ≠ blk a := fun a ha hh => by
    show some g ≠ blk a
    rcases hg with hg | hg
    · rcases hh with hh | hh
      · rw [hg] at hh; cases hh
      · rw [hg] at hh; exact hh
    · intro e; have := ha g e.symm; omega
  have kp : ∀ a : Option Addr, (blk ar = none ∨ blk ar ≠ blk a) → blk a = none ∨ blk a ≠ blk ar := fun a hh => by
    rcases hh with e | e
    · cases hb : blk a with
      | none => exact .inl rfl
      | some x => right; rw [e]; simp
    · exact .inr (Ne.symm e)
  have fl : ∀ a : Option Addr, (blk a = none ∨ blk a ≠ blk ar) → (blk ar = none ∨ blk ar ≠ blk a) := fun a hh => by
    rcases hh with e | e
    · cases hb : blk ar with
      | none => exact .inl rfl
      | some x => right; rw [e]; simp
    · exact .inr (Ne.symm e)
  refine ⟨Nat.lt_of_lt_of_le h.sz hs.size, by simpa using hc0, by rw [hs.cell 1 (by decide)]; exact h.c1, by rw [hs.cell 2 (by decide)]; exact h.c2, by rw [hs.cell 3 (by decide)]; exact h.c3, by rw [hs.cell 4 (by decide)]; exact h.c4,
    fun o => by rw [hs.fz o]; exact h.fz o, fun o => by rw [hs.fzAt h.sz (by omega) hlg]; exact h.fl o, by rw [hs.cellAt h.sz (by omega) hlg]; exact h.l0, by rw [hs.cellAt h.sz (by omega) hlg]; exact h.l1,
    by rw [relsV_snoc]; simpa using hown, hs.own h.oo (by omega) (kp ao h.s1), hs.own h.of (by omega) (kp af h.s2), ?_, .inr (sep ao (fun x hx => (h.olt hx).2) h.s1), .inr (sep af (fun x hx => (h.flt hx).2) h.s2), h.s3⟩
  have key : ∀ (j : Nat) q, (bB + 1 < q ∧ q + 1 < w.heap.size ∧ w.cell? ⟨q, 0, none⟩ = some (.int .i64 (j : Nat)) ∧ w.cell? ⟨q + 1, 0, none⟩ = some (.pointer (some ⟨bB + 1, 0, none⟩)) ∧ Apart ar ao af q ∧ Apart ar ao af (q + 1)) →
      (bB + 1 < q ∧ q + 1 < w2.heap.size ∧ w2.cell? ⟨q, 0, none⟩ = some (.int .i64 (j : Nat)) ∧ w2.cell? ⟨q + 1, 0, none⟩ = some (.pointer (some ⟨bB + 1, 0, none⟩)) ∧ Apart (some ⟨g, 0, none⟩) ao af q ∧ Apart (some ⟨g, 0, none⟩) ao af (q + 1)) := by
    rintro j q ⟨q1, q2, q3, q4, q5, q6⟩
    refine ⟨q1, Nat.lt_of_lt_of_le q2 hs.size, ?_, ?_, ⟨nw q (by omega) q5.1, q5.2.1, q5.2.2⟩, ⟨nw (q + 1) q2 q6.1, q6.2.1, q6.2.2⟩⟩
    · rw [hs.cellAt (by omega) (by omega) (fun e => q5.1 e.symm)]; exact q3
    · rw [hs.cellAt q2 (by omega) (fun e => q6.1 e.symm)]; exact q4
  intro j q hq
  by_cases hj : j < ps.length
  · rw [List.getElem?_append_left hj] at hq
    exact key j q (h.clo j q hq)
  · have hj2 : j = ps.length := by
      have := (List.getElem?_eq_some_iff.1 hq).1
      simp at this; omega
    subst hj2
    simp at hq
    subst hq
    exact key _ _ hp

/-- owner has grown by one. -/
theorem BS.step_o (h : BS w bB ar ao af cr co cf start ps os fs) (hs : Step bB 1 (blk ao) w w2) {g cap : Nat} {x : Int} (hc0 : w2.cell? ⟨bB, 1, none⟩ = some (.slice (some ⟨g, 0, none⟩) (os.length + 1) cap))
    (hown : w2.ownsRow (bB + 2) 3 1 (.slice (some ⟨g, 0, none⟩) (os.length + 1) cap) (os.length + 1) (i64s os ++ [.int .i64 x])) (hg : blk ao = some g ∨ w.heap.size ≤ g) :
    BS w2 bB ar (some ⟨g, 0, none⟩) af cr cap cf start ps (os ++ [x]) fs := by
  have hlg : some (bB + 1) ≠ blk ao := fun e => by have := h.olt e.symm; omega
  have nw : ∀ x, x < w.heap.size → blk ao ≠ some x → blk (some (⟨g, 0, none⟩ : Addr)) ≠ some x := fun x hx a1 => by
    rcases hg with hg | hg
    · rw [hg] at a1; exact a1
    · show some g ≠ some x
      intro e; have := Option.some.inj e; omega
  have sep : ∀ a : Option Addr, (∀ x, blk a = some x → x < w.heap.size) → (blk ao = none ∨ blk ao ≠ blk a) → blk (some (⟨g, 0, none⟩ : Addr)) ≠ blk a := fun a ha hh => by
    show some g ≠ blk a
    rcases hg with hg | hg
    · rcases hh with hh | hh
      · rw [hg] at hh; cases hh
      · rw [hg] at hh; exact hh
    · intro e; have := ha g e.symm; omega
  have kp : ∀ a : Option Addr, (blk ao = none ∨ blk ao ≠ blk a) → blk a = none ∨ blk a ≠ blk ao := fun a hh => by
    rcases hh with e | e
    · cases hb : blk a with
      | none => exact .inl rfl
      | some x => right; rw [e]; simp
    · exact .inr (Ne.symm e)
  have fl : ∀ a : Option Addr, (blk a = none ∨ blk a ≠ blk ao) → (blk ao = none ∨ blk ao ≠ blk a) := fun a hh => by
    rcases hh with e | e
    · cases hb : blk ao with
      | none => exact .inl rfl
      | some x => right; rw [e]; simp
    · exact .inr (Ne.symm e)
  refine ⟨Nat.lt_of_lt_of_le h.sz hs.size, by rw [hs.cell 0 (by decide)]; exact h.c0, by simpa using hc0, by rw [hs.cell 2 (by decide)]; exact h.c2, by rw [hs.cell 3 (by decide)]; exact h.c3, by rw [hs.cell 4 (by decide)]; exact h.c4,
    fun o => by rw [hs.fz o]; exact h.fz o, fun o => by rw [hs.fzAt h.sz (by omega) hlg]; exact h.fl o, by rw [hs.cellAt h.sz (by omega) hlg]; exact h.l0, by rw [hs.cellAt h.sz (by omega) hlg]; exact h.l1,
    hs.own h.or (by omega) (h.s1), by rw [i64s_snoc]; simpa using hown, hs.own h.of (by omega) (kp af h.s3), ?_, .inr (Ne.symm (sep ar (fun x hx => (h.rlt hx).2) (fl ar h.s1))), h.s2, .inr (sep af (fun x hx => (h.flt hx).2) h.s3)⟩
  have key : ∀ (j : Nat) q, (bB + 1 < q ∧ q + 1 < w.heap.size ∧ w.cell? ⟨q, 0, none⟩ = some (.int .i64 (j : Nat)) ∧ w.cell? ⟨q + 1, 0, none⟩ = some (.pointer (some ⟨bB + 1, 0, none⟩)) ∧ Apart ar ao af q ∧ Apart ar ao af (q + 1)) →
      (bB + 1 < q ∧ q + 1 < w2.heap.size ∧ w2.cell? ⟨q, 0, none⟩ = some (.int .i64 (j : Nat)) ∧ w2.cell? ⟨q + 1, 0, none⟩ = some (.pointer (some ⟨bB + 1, 0, none⟩)) ∧ Apart ar (some ⟨g, 0, none⟩) af q ∧ Apart ar (some ⟨g, 0, none⟩) af (q + 1)) := by
    rintro j q ⟨q1, q2, q3, q4, q5, q6⟩
    refine ⟨q1, Nat.lt_of_lt_of_le q2 hs.size, ?_, ?_, ⟨q5.1, nw q (by omega) q5.2.1, q5.2.2⟩, ⟨q6.1, nw (q + 1) q2 q6.2.1, q6.2.2⟩⟩
    · rw [hs.cellAt (by omega) (by omega) (fun e => q5.2.1 e.symm)]; exact q3
    · rw [hs.cellAt q2 (by omega) (fun e => q6.2.1 e.symm)]; exact q4
  intro j q hq
  exact key j q (h.clo j q hq)

/-- offset has grown by one. -/
theorem BS.step_f (h : BS w bB ar ao af cr co cf start ps os fs) (hs : Step bB 2 (blk af) w w2) {g cap : Nat} {x : Int} (hc0 : w2.cell? ⟨bB, 2, none⟩ = some (.slice (some ⟨g, 0, none⟩) (fs.length + 1) cap))
    (hown : w2.ownsRow (bB + 2) 3 1 (.slice (some ⟨g, 0, none⟩) (fs.length + 1) cap) (fs.length + 1) (i64s fs ++ [.int .i64 x])) (hg : blk af = some g ∨ w.heap.size ≤ g) :
    BS w2 bB ar ao (some ⟨g, 0, none⟩) cr co cap start ps os (fs ++ [x]) := by
  have hlg : some (bB + 1) ≠ blk af := fun e => by have := h.flt e.symm; omega
  have nw : ∀ x, x < w.heap.size → blk af ≠ some x → blk (some (⟨g, 0, none⟩ : Addr)) ≠ some x := fun x hx a1 => by
    rcases hg with hg | hg
    · rw [hg] at a1; exact a1
    · show some g ≠ some x
      intro e; have := Option.some.inj e; omega
  have sep : ∀ a : Option Addr, (∀ x, blk a = some x → x < w.heap.size) → (blk af = none ∨ blk af ≠ blk a) → blk (some (⟨g, 0, none⟩ : Addr)) ≠ blk a := fun a ha hh => by
    show some g ≠ blk a
    rcases hg with hg | hg
    · rcases hh with hh | hh
      · rw [hg] at hh; cases hh
      · rw [hg] at hh; exact hh
    · intro e; have := ha g e.symm; omega
  have kp : ∀ a : Option Addr, (blk af = none ∨ blk af ≠ blk a) → blk a = none ∨ blk a ≠ blk af := fun a hh => by
    rcases hh with e | e
    · cases hb : blk a with
      | none => exact .inl rfl
      | some x => right; rw [e]; simp
    · exact .inr (Ne.symm e)
  have fl : ∀ a : Option Addr, (blk a = none ∨ blk a ≠ blk af) → (blk af = none ∨ blk af ≠ blk a) := fun a hh => by
    rcases hh with e | e
    · cases hb : blk af with
      | none => exact .inl rfl
      | some x => right; rw [e]; simp
    · exact .inr (Ne.symm e)
  refine ⟨Nat.lt_of_lt_of_le h.sz hs.size, by rw [hs.cell 0 (by decide)]; exact h.c0, by rw [hs.cell 1 (by decide)]; exact h.c1, by simpa using hc0, by rw [hs.cell 3 (by decide)]; exact h.c3, by rw [hs.cell 4 (by decide)]; exact h.c4,
    fun o => by rw [hs.fz o]; exact h.fz o, fun o => by rw [hs.fzAt h.sz (by omega) hlg]; exact h.fl o, by rw [hs.cellAt h.sz (by omega) hlg]; exact h.l0, by rw [hs.cellAt h.sz (by omega) hlg]; exact h.l1,
    hs.own h.or (by omega) (h.s2), hs.own h.oo (by omega) (h.s3), by rw [i64s_snoc]; simpa using hown, ?_, h.s1, .inr (Ne.symm (sep ar (fun x hx => (h.rlt hx).2) (fl ar h.s2))), .inr (Ne.symm (sep ao (fun x hx => (h.olt hx).2) (fl ao h.s3)))⟩
  have key : ∀ (j : Nat) q, (bB + 1 < q ∧ q + 1 < w.heap.size ∧ w.cell? ⟨q, 0, none⟩ = some (.int .i64 (j : Nat)) ∧ w.cell? ⟨q + 1, 0, none⟩ = some (.pointer (some ⟨bB + 1, 0, none⟩)) ∧ Apart ar ao af q ∧ Apart ar ao af (q + 1)) →
      (bB + 1 < q ∧ q + 1 < w2.heap.size ∧ w2.cell? ⟨q, 0, none⟩ = some (.int .i64 (j : Nat)) ∧ w2.cell? ⟨q + 1, 0, none⟩ = some (.pointer (some ⟨bB + 1, 0, none⟩)) ∧ Apart ar ao (some ⟨g, 0, none⟩) q ∧ Apart ar ao (some ⟨g, 0, none⟩) (q + 1)) := by
    rintro j q ⟨q1, q2, q3, q4, q5, q6⟩
    refine ⟨q1, Nat.lt_of_lt_of_le q2 hs.size, ?_, ?_, ⟨q5.1, q5.2.1, nw q (by omega) q5.2.2⟩, ⟨q6.1, q6.2.1, nw (q + 1) q2 q6.2.2⟩⟩
    · rw [hs.cellAt (by omega) (by omega) (fun e => q5.2.2 e.symm)]; exact q3
    · rw [hs.cellAt q2 (by omega) (fun e => q6.2.2 e.symm)]; exact q4
  intro j q hq
  exact key j q (h.clo j q hq)

/-- A new block turns nothing. -/
theorem BS.same (h : BS w bB ar ao af cr co cf start ps os fs) (hb : Below w.heap.size w w2) : BS w2 bB ar ao af cr co cf start ps os fs := by
  have own : ∀ {e : TypeId} {size : Nat} {v : Value} {n : Nat} {xs : List Value}, w.ownsRow (bB + 2) e size v n xs → w2.ownsRow (bB + 2) e size v n xs := fun ho => ho.kept (row := none) ⟨hb.os, hb.tape, hb.output, hb.size, fun k hk _ => hb.block k hk⟩ (by cases Value.ownBlock _ <;> simp)
  have hB : bB < w.heap.size := by have := h.sz; omega
  have c : ∀ x o, x < w.heap.size → w2.cell? ⟨x, o, none⟩ = w.cell? ⟨x, o, none⟩ := fun x o hx => hb.cell (p := ⟨x, o, none⟩) hx
  have f : ∀ x o, x < w.heap.size → w2.frozen? ⟨x, o, none⟩ = w.frozen? ⟨x, o, none⟩ := fun x o hx => hb.frozen (p := ⟨x, o, none⟩) hx
  refine ⟨Nat.lt_of_lt_of_le h.sz hb.size, by rw [c _ _ hB]; exact h.c0, by rw [c _ _ hB]; exact h.c1, by rw [c _ _ hB]; exact h.c2, by rw [c _ _ hB]; exact h.c3, by rw [c _ _ hB]; exact h.c4,
    fun o => by rw [f _ _ hB]; exact h.fz o, fun o => by rw [f _ _ h.sz]; exact h.fl o, by rw [c _ _ h.sz]; exact h.l0, by rw [c _ _ h.sz]; exact h.l1, own h.or, own h.oo, own h.of, ?_, h.s1, h.s2, h.s3⟩
  intro j q hq
  obtain ⟨q1, q2, q3, q4, q5, q6⟩ := h.clo j q hq
  exact ⟨q1, Nat.lt_of_lt_of_le q2 hb.size, by rw [c _ _ (by omega)]; exact q3, by rw [c _ _ q2]; exact q4, q5, q6⟩
end
end Go.Proofs.Ybulkbug
