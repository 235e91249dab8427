import Derived.Test.YbulkblqFmtOut
import Derived.Test.YbulkblqFmtModel
import Derived.Test.YbulkblqFmtLawB
namespace Go.Proofs.YbulkblqFmt
open Go.RowKit
open Go.WideShapes (add_plain)

/-- 'append' of at least one element onto a slice of the call's own: the value that comes back is written out. -/
theorem wp_append_own {P : Program} {ops : Array Oper} {rest : List Oper} {o : Oper} {a : Act} {w : World} {Q : Exit → Act → World → Prop}
    (hg : o.guard = none) (s x : Operand) (t : TypeId) (hop : o.op = Op.call { callee := Callee.builtin Builtin.append, args := #[s, x], argTypes := #[t, t] })
    (base : Nat) (e : TypeId) (i : TypeInfo) (z : Value) (size bytes : Nat) (h1 : P.underlying t = some (.slice e)) (h2 : P.info? e = some i) (h3 : i.zero = some z) (h4 : i.size = size) (h5 : i.bytes = bytes) (h6 : z.cells.size = size) (h7 : 0 < size)
    (v : Value) (n : Nat) (xs : List Value) (hs : a.eval s = v) (hown : w.ownsRow base e size v n xs)
    (ad : Addr) (m c : Nat) (news : List Value) (hx : a.eval x = .slice (some ad) m c) (hn : news.length = m * size) (hc : ∀ j u, news[j]? = some u → w.cell? (ad.add j) = some u) (h1c : ∀ u ∈ news, u.oneCell' = true) (hm : 0 < m)
    (b1 : n + m ≤ maxLen) (b2 : (n + m) * bytes ≤ 140737488355328) (hbase : base ≤ w.heap.size)
    (hK : ∀ g cap w', w'.ownsRow base e size (.slice (some ⟨g, 0, none⟩) (n + m) cap) (n + m) (xs ++ news) → w.grownBy w' v.ownBlock → (v.ownBlock = some g ∨ g = w.heap.size) → wpList P ops Q rest (a.put o.dst (.slice (some ⟨g, 0, none⟩) (n + m) cap)) w') :
    wpList P ops Q (o :: rest) a w := by
  refine wpList_plain hg fun K hK' => ?_
  obtain ⟨v', w', hrun, r1, r2, r3, r4⟩ := run_append_own_at (P := P) w base t o.type e i z size bytes h1 h2 h3 h4 h5 h6 h7 v n xs hown ad m c news hn hc h1c b1 b2 hbase
  rcases r1.2 with ⟨rfl, hz⟩ | ⟨g, cap, cur, rfl, _⟩
  · omega
  unfold Oper.wp
  simp [execOp, hop, resolve, invoke, builtin, hs, hx, hrun, Result.andThen]
  refine hK' _ _ (hK g cap w' r1 r2 ?_)
  rcases r4 with h | h
  · left; rw [← h]; rfl
  · right; simpa [Value.ownBlock] using h

theorem Ybaf.info28 : (Ybaf.prog.info? 28).map (fun i => (i.zero, i.size, i.bytes)) = some (some (.agg #[.string ⟨#[]⟩, .int .i64 0]), 2, 24) := by kernel_rfl

def atsV (at_ : Nat → Nat) : Nat → List Value
  | 0 => []
  | k + 1 => atsV at_ k ++ [.int .i64 (at_ k : Nat)]
def ptrV (at_ : Nat → Nat) : Nat → List Value
  | 0 => []
  | k + 1 => ptrV at_ k ++ [.string vS, .int .i64 (at_ k : Nat)]
theorem atsV_len (at_ : Nat → Nat) : ∀ k, (atsV at_ k).length = k
  | 0 => rfl
  | k + 1 => by simp [atsV, atsV_len at_ k]
theorem ptrV_len (at_ : Nat → Nat) : ∀ k, (ptrV at_ k).length = k * 2
  | 0 => rfl
  | k + 1 => by simp [ptrV, ptrV_len at_ k]; omega
theorem atsV_get (at_ : Nat → Nat) : ∀ (k i : Nat), i < k → (atsV at_ k)[i]? = some (.int .i64 (at_ i : Nat))
  | 0, i, h => by omega
  | k + 1, i, h => by
    have hl := atsV_len at_ k
    unfold atsV
    by_cases e : i = k
    · subst e; rw [List.getElem?_append_right (by omega), hl]; simp
    · rw [List.getElem?_append_left (by omega)]; exact atsV_get at_ k i (by omega)
theorem ptrV_get (at_ : Nat → Nat) : ∀ (k i : Nat), i < k → (ptrV at_ k)[i * 2]? = some (.string vS) ∧ (ptrV at_ k)[i * 2 + 1]? = some (.int .i64 (at_ i : Nat))
  | 0, i, h => by omega
  | k + 1, i, h => by
    have hl := ptrV_len at_ k
    unfold ptrV
    by_cases e : i = k
    · subst e
      exact ⟨by rw [List.getElem?_append_right (by omega), hl]; simp, by rw [List.getElem?_append_right (by omega), hl]; simp⟩
    · have ih := ptrV_get at_ k i (by omega)
      exact ⟨by rw [List.getElem?_append_left (by omega)]; exact ih.1, by rw [List.getElem?_append_left (by omega)]; exact ih.2⟩

/-- The two rows of the law's own, k entries each. -/
structure RS (w wr : World) (at_ : Nat → Nat) (k : Nat) (va vp : Value) : Prop where
  oa : wr.ownsRow w.heap.size 3 1 va k (atsV at_ k)
  op : wr.ownsRow w.heap.size 28 2 vp k (ptrV at_ k)
  ne : va.ownBlock = none ∨ va.ownBlock ≠ vp.ownBlock
  bel : Below w.heap.size w wr

theorem RS.mid {w wr wr2 : World} {at_ : Nat → Nat} {k : Nat} {va vp : Value} (h : RS w wr at_ k va vp) {x : Obj} (hg : (wr.alloc x).grownBy wr2 va.ownBlock) : wr2.ownsRow w.heap.size 28 2 vp k (ptrV at_ k) :=
  (h.op.alloc x).kept hg (by
    rcases h.ne with e | e
    · rw [e]
      cases hv : vp.ownBlock with
      | none => exact .inl rfl
      | some b => exact .inr (by simp)
    · exact .inr (fun e' => e e'.symm))

theorem RS.next {w wr wr2 wr4 : World} {at_ : Nat → Nat} {k : Nat} {va vp : Value} (h : RS w wr at_ k va vp) {x y : Obj} {ga ca gp cp : Nat}
    (ho : wr2.ownsRow w.heap.size 3 1 (.slice (some ⟨ga, 0, none⟩) (k + 1) ca) (k + 1) (atsV at_ k ++ [.int .i64 (at_ k : Nat)])) (hg : (wr.alloc x).grownBy wr2 va.ownBlock) (hat : va.ownBlock = some ga ∨ ga = (wr.alloc x).heap.size)
    (ho' : wr4.ownsRow w.heap.size 28 2 (.slice (some ⟨gp, 0, none⟩) (k + 1) cp) (k + 1) (ptrV at_ k ++ [.string vS, .int .i64 (at_ k : Nat)])) (hg' : (wr2.alloc y).grownBy wr4 vp.ownBlock) (hat' : vp.ownBlock = some gp ∨ gp = (wr2.alloc y).heap.size) :
    RS w wr4 at_ (k + 1) (.slice (some ⟨ga, 0, none⟩) (k + 1) ca) (.slice (some ⟨gp, 0, none⟩) (k + 1) cp) := by
  have hs1 : wr.heap.size < (wr.alloc x).heap.size := by simp
  have hs2 := hg.size
  have hvp : ∀ b, vp.ownBlock = some b → b < wr.heap.size := fun b e => (h.op.lt b e).2
  have hga : ∀ b, vp.ownBlock = some b → ga ≠ b := fun b e e' => by
    subst e'
    rcases hat with h1 | h1
    · rcases h.ne with h2 | h2
      · rw [h2] at h1; cases h1
      · exact h2 (by rw [h1, e])
    · have := hvp _ e; omega
  have hgalt := (ho.lt ga rfl).2
  refine ⟨(ho.alloc y).kept hg' ?_, ho', .inr ?_, ?_⟩
  · cases hv : vp.ownBlock with
    | none => exact .inr (by simp [Value.ownBlock])
    | some b => exact .inr (by simpa [Value.ownBlock] using hga b hv)
  · intro e
    have e : ga = gp := by simpa [Value.ownBlock] using e
    rcases hat' with h1 | h1
    · exact hga gp h1 e
    · simp at h1; omega
  · have b1 : Below w.heap.size w (wr.alloc x) := belowA h.bel x
    have b2 : Below w.heap.size w wr2 := b1.grown hg b1.size (fun b e => (h.oa.lt b e).1)
    have b3 : Below w.heap.size w (wr2.alloc y) := belowA b2 y
    exact b3.grown hg' b3.size (fun b e => (h.op.lt b e).1)
end Go.Proofs.YbulkblqFmt
