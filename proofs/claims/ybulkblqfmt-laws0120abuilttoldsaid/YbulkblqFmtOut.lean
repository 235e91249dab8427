import Derived.Test.YbulkblqFmtCk
import Derived.Test.YbulkblqFmtBridge
namespace Go.Proofs.YbulkblqFmt
open Go.RowKit Go.Extern.Stop Go.Stop Go.Extern
open Go.WideShapes (add_plain)
attribute [local go_sem] Oper.semAt_some
set_option linter.unusedSimpArgs false

def q3 (of : Nat → Int) {m : Nat} (y : PR m) : Prop := of y.1.1 < of y.1.2
def q4 (of lf : Nat → Int) {m : Nat} (y : PR m) : Prop := of y.1.1 < of y.1.2 + lf y.1.2
def Going {m : Nat} (q : PR m → Prop) (W0 : World) (pre : List (PR m)) (W : World) : Prop := (∀ y ∈ pre, ¬ q y) ∧ Below W0.heap.size W0 W
def Gone {m : Nat} (q : PR m → Prop) (w : World) (r : ByteArray) (c : Code) (pre : List (PR m)) (W : World) : Prop :=
  (c = .ret ∧ (∃ y ∈ pre, q y) ∧ ∃ txt, W.cell? ⟨w.heap.size + 1, 0, none⟩ = some (.string r) ∧ W.cell? ⟨w.heap.size + 1 + 1, 0, none⟩ = some (.string txt)) ∧ Below w.heap.size w W
theorem going_own {m : Nat} (q : PR m → Prop) (W0 : World) : OwnFrom W0.heap.size (Going q W0) :=
  OwnFrom.and (ownFrom_pure _ _) (ownFrom_below (Nat.le_refl _) (Nat.le_refl _))
theorem gone_own {m : Nat} (q : PR m → Prop) (w : World) (r : ByteArray) (B : Nat) (hB : w.heap.size ≤ B) (c : Code) : OwnFrom B (Gone q w r c) :=
  OwnFrom.and (Own.from (fun _ _ _ _ hs hg hr => ⟨hs.1, hs.2.1, hs.2.2.choose, cell_kept hs.2.2.choose_spec.1 hg hr, cell_kept hs.2.2.choose_spec.2 hg hr⟩) _) (ownFrom_below (Nat.le_refl _) hB)

theorem two_boxes {wr : World} {p q : Nat} {x y a b : Value} (hp : wr.cell? ⟨p, 0, none⟩ = some a) (hq : wr.cell? ⟨q, 0, none⟩ = some b) (hne : p ≠ q) :
    ((wr.setCell ⟨p, 0, none⟩ x).setCell ⟨q, 0, none⟩ y).cell? ⟨p, 0, none⟩ = some x ∧ ((wr.setCell ⟨p, 0, none⟩ x).setCell ⟨q, 0, none⟩ y).cell? ⟨q, 0, none⟩ = some y :=
  ⟨by rw [World.cell?_setCell_far _ _ _ _ (fun e => hne e.symm)]; exact World.cell?_setCell_same _ _ _ hp, World.cell?_setCell_same (u := b) _ _ _ (by rw [World.cell?_setCell_far _ _ _ _ hne]; exact hq)⟩

def Gone2 {m : Nat} (q : PR m → Prop) (w : World) (r : ByteArray) (D : Nat) (c : Code) (pre : List (PR m)) (W : World) : Prop := Gone q w r c pre W ∧ W.heap[D]? = some (.deferred (some []))
theorem gone2_own {m : Nat} (q : PR m → Prop) (w : World) (r : ByteArray) (D B : Nat) (hD : D < B) (hB : w.heap.size ≤ B) (c : Code) : OwnFrom B (Gone2 q w r D c) :=
  OwnFrom.and (gone_own q w r B hB c) (fun _ _ _ _ hs hg hr => (hg.block D (Array.getElem?_eq_some_iff.1 hs).1 (fun e => by have := (hr D e.symm).1; omega)).trans hs)
theorem gone_out {w W : World} {ap : Option Addr} {m cp : Nat} {of lf : Nat → Int} {g cap k n : Nat} (h : CK w W ap m cp of lf g cap k) (r txt : ByteArray) (x y z : Obj) {q : PR n → Prop} {pre : List (PR n)} (hq : ∃ y ∈ pre, q y) :
    KeepsOthers W ((((((W.setCell ⟨w.heap.size + 1, 0, none⟩ (.string r)).setCell ⟨w.heap.size + 1 + 1, 0, none⟩ (.string txt)).alloc x).alloc y).alloc z).drew.drew.drew) ∧
    Gone q w r .ret pre ((((((W.setCell ⟨w.heap.size + 1, 0, none⟩ (.string r)).setCell ⟨w.heap.size + 1 + 1, 0, none⟩ (.string txt)).alloc x).alloc y).alloc z).drew.drew.drew) := by
  have hs := h.sz
  have h2 := two_boxes (x := .string r) (y := .string txt) h.c6 h.c7 (by omega)
  have hB : Below W.heap.size ((W.setCell ⟨w.heap.size + 1, 0, none⟩ (.string r)).setCell ⟨w.heap.size + 1 + 1, 0, none⟩ (.string txt)) ((((((W.setCell ⟨w.heap.size + 1, 0, none⟩ (.string r)).setCell ⟨w.heap.size + 1 + 1, 0, none⟩ (.string txt)).alloc x).alloc y).alloc z).drew.drew.drew) :=
    ((((Below.refl _ _).alloc (by simp [World.setCell]) x).alloc (by simp [World.setCell]) y).alloc (by simp [World.setCell]; omega) z).drew.drew.drew
  refine ⟨?_, ⟨rfl, hq, txt, (hB.cell (p := ⟨w.heap.size + 1, 0, none⟩) (by show w.heap.size + 1 < _; omega)).trans h2.1, (hB.cell (p := ⟨w.heap.size + 1 + 1, 0, none⟩) (by show w.heap.size + 1 + 1 < _; omega)).trans h2.2⟩, ?_⟩
  · exact (((((KeepsOthers.setCell _ _ _).trans (KeepsOthers.setCell _ _ _)).trans (KeepsOthers.alloc _ _)).trans (KeepsOthers.alloc _ _)).trans (KeepsOthers.alloc _ _)).trans (((KeepsOthers.drew _).trans (KeepsOthers.drew _)).trans (KeepsOthers.drew _))
  · exact ((h.bel.setCell (p := ⟨w.heap.size + 1, 0, none⟩) (by show w.heap.size ≤ w.heap.size + 1; omega) _).setCell (p := ⟨w.heap.size + 1 + 1, 0, none⟩) (by show w.heap.size ≤ w.heap.size + 1 + 1; omega) _).trans (hB.mono (by omega))

theorem gone_out6 {w W : World} {ap : Option Addr} {m cp : Nat} {of lf : Nat → Int} {g cap k n D : Nat} (h : CK w W ap m cp of lf g cap k) (hD : W.heap[D]? = some (.deferred (some []))) (r txt : ByteArray) (x1 x2 x3 x4 x5 x6 : Obj) {q : PR n → Prop} {pre : List (PR n)} (hq : ∃ y ∈ pre, q y) :
    KeepsOthers W (((((((((W.setCell ⟨w.heap.size + 1, 0, none⟩ (.string r)).setCell ⟨w.heap.size + 1 + 1, 0, none⟩ (.string txt)).alloc x1).alloc x2).alloc x3).alloc x4).alloc x5).alloc x6).drew.drew.drew.drew) ∧ Gone2 q w r D .ret pre (((((((((W.setCell ⟨w.heap.size + 1, 0, none⟩ (.string r)).setCell ⟨w.heap.size + 1 + 1, 0, none⟩ (.string txt)).alloc x1).alloc x2).alloc x3).alloc x4).alloc x5).alloc x6).drew.drew.drew.drew) := by
  have hs := h.sz
  have h2 := two_boxes (x := .string r) (y := .string txt) h.c6 h.c7 (by omega)
  have hB : Below W.heap.size ((W.setCell ⟨w.heap.size + 1, 0, none⟩ (.string r)).setCell ⟨w.heap.size + 1 + 1, 0, none⟩ (.string txt)) (((((((((W.setCell ⟨w.heap.size + 1, 0, none⟩ (.string r)).setCell ⟨w.heap.size + 1 + 1, 0, none⟩ (.string txt)).alloc x1).alloc x2).alloc x3).alloc x4).alloc x5).alloc x6).drew.drew.drew.drew) :=
    (((((((Below.refl _ _).alloc (by simp [World.setCell]) x1).alloc (by simp [World.setCell]) x2).alloc (by simp [World.setCell]; omega) x3).alloc (by simp [World.setCell]; omega) x4).alloc (by simp [World.setCell]; omega) x5).alloc (by simp [World.setCell]; omega) x6).drew.drew.drew.drew
  have hKo : KeepsOthers W (((((((((W.setCell ⟨w.heap.size + 1, 0, none⟩ (.string r)).setCell ⟨w.heap.size + 1 + 1, 0, none⟩ (.string txt)).alloc x1).alloc x2).alloc x3).alloc x4).alloc x5).alloc x6).drew.drew.drew.drew) := (((((((KeepsOthers.setCell _ _ _).trans (KeepsOthers.setCell _ _ _)).trans (KeepsOthers.alloc _ _)).trans (KeepsOthers.alloc _ _)).trans (KeepsOthers.alloc _ _)).trans (KeepsOthers.alloc _ _)).trans ((KeepsOthers.alloc _ _).trans (KeepsOthers.alloc _ _))).trans (((KeepsOthers.drew _).trans (KeepsOthers.drew _)).trans ((KeepsOthers.drew _).trans (KeepsOthers.drew _)))
  refine ⟨hKo, ⟨⟨rfl, hq, txt, (hB.cell (p := ⟨w.heap.size + 1, 0, none⟩) (by show w.heap.size + 1 < _; omega)).trans h2.1, (hB.cell (p := ⟨w.heap.size + 1 + 1, 0, none⟩) (by show w.heap.size + 1 + 1 < _; omega)).trans h2.2⟩, ?_⟩, hKo.same D _ hD rfl⟩
  exact ((h.bel.setCell (p := ⟨w.heap.size + 1, 0, none⟩) (by show w.heap.size ≤ w.heap.size + 1; omega) _).setCell (p := ⟨w.heap.size + 1 + 1, 0, none⟩) (by show w.heap.size ≤ w.heap.size + 1 + 1; omega) _).trans (hB.mono (by omega))

theorem put2 {w W : World} {D D' : Nat} (h : Below w.heap.size w W) (hD : W.heap[D]? = some (.deferred (some []))) (hD' : W.heap[D']? = some (.deferred (some []))) (hne : D' ≠ D) (h1 : w.heap.size ≤ D) (h2 : w.heap.size ≤ D') :
    Below w.heap.size w ((W.putObj D' (.deferred none)).putObj D (.deferred none)) :=
  (h.trans (belowK_b (w := w) (Nat.le_refl _) W D' _ _ h2 hD' rfl rfl)).trans (belowK_b (w := w) (Nat.le_refl _) _ D _ _ h1 (((grownBy_putObj' W D' (.deferred none)).block D (Array.getElem?_eq_some_iff.1 hD).1 (by simpa using fun e => hne e.symm)).trans hD) rfl rfl)

/-- The end: nothing is broken. -/
theorem end_out (tm : Array Value) {w W : World} {ap : Option Addr} {m cp : Nat} {of lf : Nat → Int} {g cap k D D' : Nat} (h : CK w W ap m cp of lf g cap k) (hD : W.heap[D]? = some (.deferred (some []))) (hD' : W.heap[D']? = some (.deferred (some []))) (hne : D' ≠ D) (h1 : w.heap.size + 1 + 1 < D) (h2 : w.heap.size + 1 + 1 < D') (R : Ending → World → Prop)
    (h6 : tm.getD 6 undef = .pointer (some ⟨w.heap.size + 1, 0, none⟩)) (h7 : tm.getD 7 undef = .pointer (some ⟨w.heap.size + 1 + 1, 0, none⟩)) (hR : ∀ W', Below w.heap.size w W' → R (.returned (.tuple #[.string ⟨#[]⟩, .string ⟨#[]⟩])) W') :
    LeavesInM Fence.wide 3 Ybaf.prog Ybaf.f9 tm R [{ target := .collected D', args := #[] }, { target := .collected D, args := #[] }] .returning ((W.setCell ⟨w.heap.size + 1, 0, none⟩ (.string ⟨#[]⟩)).setCell ⟨w.heap.size + 1 + 1, 0, none⟩ (.string ⟨#[]⟩)) := by
  have hs := h.sz
  have e2 := two_boxes (x := .string ⟨#[]⟩) (y := .string ⟨#[]⟩) h.c6 h.c7 (by omega)
  have hh : ∀ x, w.heap.size + 1 + 1 < x → ((W.setCell ⟨w.heap.size + 1, 0, none⟩ (.string ⟨#[]⟩)).setCell ⟨w.heap.size + 1 + 1, 0, none⟩ (.string ⟨#[]⟩)).heap[x]? = W.heap[x]? := fun x hx => by
    rw [Below.heap_setCell _ _ _ _ (by show x ≠ w.heap.size + 1 + 1; omega), Below.heap_setCell _ _ _ _ (by show x ≠ w.heap.size + 1; omega)]
  refine chk_out2 tm _ _ D D' _ _ _ R h6 h7 e2.1 e2.2 ((hh D h1).trans hD) ((hh D' h2).trans hD') hne (hR _ (put2 ?_ ((hh D h1).trans hD) ((hh D' h2).trans hD') hne (by omega) (by omega)))
  exact (h.bel.setCell (p := ⟨w.heap.size + 1, 0, none⟩) (by show w.heap.size ≤ w.heap.size + 1; omega) _).setCell (p := ⟨w.heap.size + 1 + 1, 0, none⟩) (by show w.heap.size ≤ w.heap.size + 1 + 1; omega) _

theorem hit3 {of lf : Nat → Int} {m k : Nat} {pre : List (PR m)} (hk : k ≤ m) (hp : pre.map Subtype.val = pairsV (noneF of lf) k) (h : ∃ y ∈ pre, q3 of y) : anyUpto (p3 of lf) m = true := by
  obtain ⟨y, hy, hq⟩ := h
  have h1 : y.1 ∈ pairsV (noneF of lf) k := by rw [← hp]; exact List.mem_map_of_mem hy
  have h2 := pairs_hit (q := fun i p => decide (of i < of p)) h1 (by simpa [q3] using hq)
  have : ∀ {a b : Nat}, a ≤ b → anyUpto (p3 of lf) a = true → anyUpto (p3 of lf) b = true := fun {a b} hab ha => by
    induction hab with
    | refl => exact ha
    | step _ ih => unfold anyUpto; rw [ih]; rfl
  exact this hk h2
theorem rule3' {of lf : Nat → Int} {m : Nat} {fixed n : Int} (h1 : anyUpto (p1 of fixed) m = false) (h2 : anyUpto (p2 of lf n) m = false) (h : anyUpto (p3 of lf) m = true) : ruleOf of lf m fixed n = r3 := by
  unfold ruleOf; rw [if_neg (by simp [h1]), if_neg (by simp [h2]), if_pos h]
theorem miss3 {of lf : Nat → Int} {m : Nat} {ys : List (PR m)} (hp : ys.map Subtype.val = pairsV (noneF of lf) m) (h : ∀ y ∈ ys, ¬ q3 of y) : anyUpto (p3 of lf) m = false := by
  refine pairs_miss (q := fun i p => decide (of i < of p)) (fun y hy => ?_)
  rw [← hp] at hy
  obtain ⟨z, hz, rfl⟩ := List.mem_map.1 hy
  simpa [q3] using h z hz

theorem hit4 {of lf : Nat → Int} {m k : Nat} {pre : List (PR m)} (hk : k ≤ m) (hp : pre.map Subtype.val = pairsV (noneF of lf) k) (h : ∃ y ∈ pre, q4 of lf y) : anyUpto (p4 of lf) m = true := by
  obtain ⟨y, hy, hq⟩ := h
  have h1 : y.1 ∈ pairsV (noneF of lf) k := by rw [← hp]; exact List.mem_map_of_mem hy
  have h2 := pairs_hit (q := fun i p => decide (of i < of p + lf p)) h1 (by simpa [q4] using hq)
  have : ∀ {a b : Nat}, a ≤ b → anyUpto (p4 of lf) a = true → anyUpto (p4 of lf) b = true := fun {a b} hab ha => by
    induction hab with
    | refl => exact ha
    | step _ ih => unfold anyUpto; rw [ih]; rfl
  exact this hk h2
theorem rule4' {of lf : Nat → Int} {m : Nat} {fixed n : Int} (h1 : anyUpto (p1 of fixed) m = false) (h2 : anyUpto (p2 of lf n) m = false) (h3 : anyUpto (p3 of lf) m = false) (h : anyUpto (p4 of lf) m = true) : ruleOf of lf m fixed n = r4 := by
  unfold ruleOf; rw [if_neg (by simp [h1]), if_neg (by simp [h2]), if_neg (by simp [h3]), if_pos h]
theorem miss4 {of lf : Nat → Int} {m : Nat} {ys : List (PR m)} (hp : ys.map Subtype.val = pairsV (noneF of lf) m) (h : ∀ y ∈ ys, ¬ q4 of lf y) : anyUpto (p4 of lf) m = false := by
  refine pairs_miss (q := fun i p => decide (of i < of p + lf p)) (fun y hy => ?_)
  rw [← hp] at hy
  obtain ⟨z, hz, rfl⟩ := List.mem_map.1 hy
  simpa [q4] using h z hz

theorem ret0 (tm : Array Value) {w wr : World} {ap : Option Addr} {m cp : Nat} {of lf : Nat → Int} {g cap k : Nat} (h : CK w wr ap m cp of lf g cap k) (x y : Obj) (r txt : ByteArray) (R : Ending → World → Prop) (h6 : tm.getD 6 undef = .pointer (some ⟨w.heap.size + 1, 0, none⟩)) (h7 : tm.getD 7 undef = .pointer (some ⟨w.heap.size + 1 + 1, 0, none⟩))
    (hR : ∀ W', Below w.heap.size w W' → R (.returned (.tuple #[.string r, .string txt])) W') :
    LeavesInM Fence.wide 3 Ybaf.prog Ybaf.f9 tm R [] .returning ((((wr.setCell ⟨w.heap.size + 1, 0, none⟩ (.string r)).setCell ⟨w.heap.size + 1 + 1, 0, none⟩ (.string txt)).alloc x).alloc y).drew.drew := by
  have hs := h.sz
  have h2 := two_boxes (x := .string r) (y := .string txt) h.c6 h.c7 (by omega)
  have hB : Below (wr.heap.size) ((wr.setCell ⟨w.heap.size + 1, 0, none⟩ (.string r)).setCell ⟨w.heap.size + 1 + 1, 0, none⟩ (.string txt)) ((((wr.setCell ⟨w.heap.size + 1, 0, none⟩ (.string r)).setCell ⟨w.heap.size + 1 + 1, 0, none⟩ (.string txt)).alloc x).alloc y).drew.drew :=
    (((Below.refl _ _).alloc (by simp [World.setCell]) x).alloc (by simp [World.setCell]) y).drew.drew
  refine chk_out0 tm _ _ _ r txt R h6 h7 ((hB.cell (p := ⟨w.heap.size + 1, 0, none⟩) (by show w.heap.size + 1 < _; omega)).trans h2.1) ((hB.cell (p := ⟨w.heap.size + 1 + 1, 0, none⟩) (by show w.heap.size + 1 + 1 < _; omega)).trans h2.2) (hR _ ?_)
  exact ((h.bel.setCell (p := ⟨w.heap.size + 1, 0, none⟩) (by show w.heap.size ≤ w.heap.size + 1; omega) _).setCell (p := ⟨w.heap.size + 1 + 1, 0, none⟩) (by show w.heap.size ≤ w.heap.size + 1 + 1; omega) _).trans (hB.mono (by omega))

theorem ret0b (tm : Array Value) {w wr : World} {ap : Option Addr} {m cp : Nat} {of lf : Nat → Int} {g cap k : Nat} (h : CK w wr ap m cp of lf g cap k) (x y z : Obj) (r txt : ByteArray) (R : Ending → World → Prop) (h6 : tm.getD 6 undef = .pointer (some ⟨w.heap.size + 1, 0, none⟩)) (h7 : tm.getD 7 undef = .pointer (some ⟨w.heap.size + 1 + 1, 0, none⟩))
    (hR : ∀ W', Below w.heap.size w W' → R (.returned (.tuple #[.string r, .string txt])) W') :
    LeavesInM Fence.wide 3 Ybaf.prog Ybaf.f9 tm R [] .returning (((((wr.setCell ⟨w.heap.size + 1, 0, none⟩ (.string r)).setCell ⟨w.heap.size + 1 + 1, 0, none⟩ (.string txt)).alloc x).alloc y).alloc z).drew.drew := by
  have hs := h.sz
  have h2 := two_boxes (x := .string r) (y := .string txt) h.c6 h.c7 (by omega)
  have hB : Below (wr.heap.size) ((wr.setCell ⟨w.heap.size + 1, 0, none⟩ (.string r)).setCell ⟨w.heap.size + 1 + 1, 0, none⟩ (.string txt)) (((((wr.setCell ⟨w.heap.size + 1, 0, none⟩ (.string r)).setCell ⟨w.heap.size + 1 + 1, 0, none⟩ (.string txt)).alloc x).alloc y).alloc z).drew.drew :=
    ((((Below.refl _ _).alloc (by simp [World.setCell]) x).alloc (by simp [World.setCell]) y).alloc (by simp [World.setCell]; omega) z).drew.drew
  refine chk_out0 tm _ _ _ r txt R h6 h7 ((hB.cell (p := ⟨w.heap.size + 1, 0, none⟩) (by show w.heap.size + 1 < _; omega)).trans h2.1) ((hB.cell (p := ⟨w.heap.size + 1 + 1, 0, none⟩) (by show w.heap.size + 1 + 1 < _; omega)).trans h2.2) (hR _ ?_)
  exact ((h.bel.setCell (p := ⟨w.heap.size + 1, 0, none⟩) (by show w.heap.size ≤ w.heap.size + 1; omega) _).setCell (p := ⟨w.heap.size + 1 + 1, 0, none⟩) (by show w.heap.size ≤ w.heap.size + 1 + 1; omega) _).trans (hB.mono (by omega))
end Go.Proofs.YbulkblqFmt
