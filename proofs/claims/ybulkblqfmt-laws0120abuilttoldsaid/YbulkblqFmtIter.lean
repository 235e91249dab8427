import Derived.Test.YbulkblqFmtRe
import Derived.Test.YbulkblqFmtP
import Derived.RangeFuncNested
import Derived.RangeFuncBound
import Derived.RangeFuncCalls
import Derived.RangeFuncLeaves
import Derived.Shelf.Abstract
import Derived.WalkKit
import Derived.OwnWalkIn
import Derived.TacticsInMore
import Derived.LoopNIn
import Derived.LoopIn
namespace Go.Proofs.YbulkblqFmt
open Go.RowKit Go.Shelf

attribute [local go_sem] Oper.semAt_some

/-- A pair of indices below m. -/
abbrev PR (m : Nat) := { p : Nat × Nat // p.1 < m ∧ p.2 < m }
def encP {m : Nat} (x : PR m) : Array Value := #[.int .i64 (x.1.1 : Nat), .int .i64 (x.1.2 : Nat)]

/-- The pairs that 'valuesInOrder' yields over the first k pointers. -/
def pairsV (nn : Nat → Bool) : Nat → List (Nat × Nat)
  | 0 => []
  | k + 1 => if nn k then pairsV nn k else if 0 ≤ prevAt nn k then pairsV nn k ++ [(k, (prevAt nn k).toNat)] else pairsV nn k

theorem pairsV_len (nn : Nat → Bool) : ∀ k, (pairsV nn k).length ≤ k
  | 0 => Nat.le_refl _
  | k + 1 => by
    have := pairsV_len nn k
    unfold pairsV
    split
    · omega
    · split
      · simp; omega
      · omega
theorem pairsV_skip {nn : Nat → Bool} {k : Nat} (h : nn k = true) : pairsV nn (k + 1) = pairsV nn k := by simp [pairsV, h]
theorem pairsV_first {nn : Nat → Bool} {k : Nat} (h : nn k = false) (hp : prevAt nn k = -1) : pairsV nn (k + 1) = pairsV nn k := by simp [pairsV, h, hp]
theorem pairsV_take {nn : Nat → Bool} {k j : Nat} (h : nn k = false) (hp : prevAt nn k = (j : Int)) : pairsV nn (k + 1) = pairsV nn k ++ [(k, j)] := by simp [pairsV, h, hp]

/-- A pair that breaks 'q', among the pairs, and none. -/
theorem pairs_hit {nn : Nat → Bool} {q : Nat → Nat → Bool} : ∀ {k : Nat} {y : Nat × Nat}, y ∈ pairsV nn k → q y.1 y.2 = true → anyUpto (fun i => !nn i && decide (0 ≤ prevAt nn i) && q i (prevAt nn i).toNat) k = true
  | 0, y, h, _ => by simp [pairsV] at h
  | k + 1, y, h, hq => by
    unfold pairsV at h
    unfold anyUpto
    cases hn : nn k with
    | true =>
      simp [hn] at h
      rw [pairs_hit h hq]; rfl
    | false =>
      simp [hn] at h
      by_cases hp : 0 ≤ prevAt nn k
      · simp [hp] at h
        rcases h with h | rfl
        · rw [pairs_hit h hq]; rfl
        · simp only at hq
          simp [hp, hq]
      · simp [hp] at h
        rw [pairs_hit h hq]; rfl
theorem pairs_miss {nn : Nat → Bool} {q : Nat → Nat → Bool} : ∀ {k : Nat}, (∀ y ∈ pairsV nn k, q y.1 y.2 = false) → anyUpto (fun i => !nn i && decide (0 ≤ prevAt nn i) && q i (prevAt nn i).toNat) k = false
  | 0, _ => rfl
  | k + 1, h => by
    unfold pairsV at h
    unfold anyUpto
    cases hn : nn k with
    | true =>
      simp only [hn, if_true] at h
      rw [pairs_miss h]; simp
    | false =>
      by_cases hp : 0 ≤ prevAt nn k
      · simp only [hn, hp, if_true] at h
        rw [pairs_miss (fun y hy => h y (by simp [hy]))]
        have := h (k, (prevAt nn k).toNat) (by simp)
        simp only at this
        simp [this]
      · simp only [hn, hp] at h
        rw [pairs_miss (fun y hy => h y (by simpa using hy))]
        simp [hp]

/-- The row of the value pointers that were read. -/
def VRow (w : World) (g k : Nat) (of lf : Nat → Int) : Prop := ∀ i, i < k → w.cell? ⟨g, i * 2, none⟩ = some (.int .i64 (of i)) ∧ w.cell? ⟨g, i * 2 + 1, none⟩ = some (.int .i64 (lf i))

theorem VRow.below {w w' : World} {B g k : Nat} {of lf : Nat → Int} (h : VRow w g k of lf) (hB : Below B w w') (hg : g < B) : VRow w' g k of lf :=
  fun i hi => ⟨(hB.cell (p := ⟨g, i * 2, none⟩) hg).trans (h i hi).1, (hB.cell (p := ⟨g, i * 2 + 1, none⟩) hg).trans (h i hi).2⟩

set_option maxRecDepth 100000 in
set_option maxHeartbeats 1000000 in
/-- 'valuesInOrder'. -/
theorem vio_walk (a : Option Addr) (len cap : Nat) (w : World) :
    Calls Ybaf.prog 17 #[.slice a len cap] w fun e w' => e = .returned (.func (.func 22) #[] #[.pointer (some ⟨w.heap.size, 0, none⟩)]) ∧ w' = w.alloc (.cells #[.slice a len cap] 58) := by
  go_enter Ybaf.func17, Ybaf.ntmps17
  go_wp2
  go_ret
  exact ⟨rfl, rfl⟩

set_option maxRecDepth 100000 in
set_option maxHeartbeats 2000000 in
/-- The closure of 'valuesInOrder'. -/
theorem iter_in (n l Bs n₀ g m cap : Nat) (of lf : Nat → Int) (hm : m ≤ 256) (hg : g < n₀) (J Jx : List (PR m) → World → Prop) (W : World) (hWn : n₀ ≤ W.heap.size) (hJ : AbidesFrom W.heap.size J)
    (hY : ∀ pre x W1, J pre W1 → pre.length < m → YieldAt Fence.wide (n - 1) Ybaf.prog l (encP x) W1 fun e W' =>
      (e = .returned (.bool true) ∧ J (pre ++ [x]) W' ∧ Below n₀ W1 W') ∨ (e = .returned (.bool false) ∧ Jx (pre ++ [x]) W'))
    (hBs : W.cell? ⟨Bs, 0, none⟩ = some (.slice (some ⟨g, 0, none⟩) m cap)) (hc : VRow W g m of lf) (h0 : J [] W) :
    CallsIn Fence.wide n Ybaf.prog 22 #[.func (.yield l) #[] #[], .pointer (some ⟨Bs, 0, none⟩)] W fun e W' => (∃ v, e = .returned v) ∧
      ((∃ ys, ys.map Subtype.val = pairsV (noneF of lf) m ∧ J ys W') ∨ (∃ pre, (∃ k, k ≤ m ∧ pre.map Subtype.val = pairsV (noneF of lf) k) ∧ Jx pre W')) := by
  have Hc : Hid (VRow W g m of lf) := hc
  have HY : Hid (∀ pre x W1, J pre W1 → pre.length < m → YieldAt Fence.wide (n - 1) Ybaf.prog l (encP x) W1 fun e W' =>
      (e = .returned (.bool true) ∧ J (pre ++ [x]) W' ∧ Below n₀ W1 W') ∨ (e = .returned (.bool false) ∧ Jx (pre ++ [x]) W')) := hY
  have HJ : Hid (AbidesFrom W.heap.size J) := hJ
  clear hc hY hJ
  refine callsIn_of_wp Ybaf.func22 rfl trivial ?_ rfl
  simp only [Ybaf.ntmps22, List.size_toArray, List.length_cons, List.length_nil, Nat.reduceAdd, Nat.reduceSub, Array.replicate_succ, Array.replicate_zero, List.push_toArray, List.append_toArray, List.nil_append, List.cons_append]
  gi_wp2
  gi_loopw [3, 8] (fun pr i wr => ∃ (k : Nat) (pre : List (PR m)), k ≤ m ∧ i = .int .i64 k ∧ pr = .int .i64 (prevAt (noneF of lf) k) ∧ pre.map Subtype.val = pairsV (noneF of lf) k ∧ J pre wr ∧ Below n₀ W wr)
    (fun _ i _ => m - (intOf i).toNat)
  case atStart => exact ⟨0, [], Nat.zero_le _, rfl, rfl, rfl, h0, Below.refl _ _⟩
  case round =>
    obtain ⟨k, pre, hk, rfl, rfl, hpre, hJs, hB⟩ := hrel
    by_cases hlt : k < m
    · have hkn : (k : Int) < (m : Int) := by omega
      obtain ⟨c0, c1⟩ := Hc.out.below hB hg k hlt
      have hsz : g < wr.heap.size := by have := hB.size; omega
      have HB : Hid (Below n₀ W wr) := hB
      have Hpre : Hid (pre.map Subtype.val = pairsV (noneF of lf) k) := hpre
      have HB2 : Hid (Below n₀ W ((wr.alloc (.cells #[.int .i64 (of k), .int .i64 (lf k)] 56)).alloc (.cells #[.int .i64 (of k), .int .i64 (lf k)] 56))) :=
        (hB.alloc (by have := hB.size; omega) _).alloc (by have := hB.size; simp; omega) _
      have HJ2 : Hid (J pre ((wr.alloc (.cells #[.int .i64 (of k), .int .i64 (lf k)] 56)).alloc (.cells #[.int .i64 (of k), .int .i64 (lf k)] 56))) :=
        HJ.out pre wr _ none hJs ((World.grownBy_alloc _ _ _).trans (World.grownBy_alloc _ _ _)) (fun r e => by cases e)
      have hlen : pre.length < m := by
        have h1 := congrArg List.length hpre
        have h2 := pairsV_len (noneF of lf) k
        rw [List.length_map] at h1
        omega
      clear hB hpre hJs
      cases nn : noneF of lf k with
      | true =>
        have E1 : Hid (prevAt (noneF of lf) (k + 1) = prevAt (noneF of lf) k) := prevAt_skip nn
        have E2 : Hid (pairsV (noneF of lf) (k + 1) = pairsV (noneF of lf) k) := pairsV_skip nn
        have nn' : (of k == 0 || lf k == 0) = true := nn
        gi_wp2_with (fail)
        refine ⟨trivial, fun h => (by cases h), (callsIn_wide.2 (none_walk (of k) (lf k) _)).mono ?_⟩
        rintro e w' ⟨rfl, rfl⟩
        rw [nn']
        gi_wp2
        go_roundw
        case rel => exact ⟨k + 1, pre, by omega, by simp, by rw [E1.out], by rw [E2.out]; exact Hpre.out, HJ2.out, HB2.out⟩
        case measure => simp [intOf]; omega
      | false =>
        have nn' : (of k == 0 || lf k == 0) = false := nn
        have E1 : Hid (prevAt (noneF of lf) (k + 1) = (k : Int)) := prevAt_take nn
        rcases prevAt_cases (noneF of lf) k with hp | ⟨j, hj, hp⟩
        · have E2 : Hid (pairsV (noneF of lf) (k + 1) = pairsV (noneF of lf) k) := pairsV_first nn hp
          rw [hp]
          clear hp
          gi_wp2_with (fail)
          refine ⟨trivial, fun h => (by cases h), (callsIn_wide.2 (none_walk (of k) (lf k) _)).mono ?_⟩
          rintro e w' ⟨rfl, rfl⟩
          rw [nn']
          gi_wp2_with (fail)
          refine ⟨fun _ h => (by cases h), ?_⟩
          gi_wp2
          go_roundw
          case rel => exact ⟨k + 1, pre, by omega, by simp, by rw [E1.out], by rw [E2.out]; exact Hpre.out, HJ2.out, HB2.out⟩
          case measure => simp [intOf]; omega
        · have E2 : Hid (pairsV (noneF of lf) (k + 1) = pairsV (noneF of lf) k ++ [(k, j)]) := pairsV_take nn hp
          rw [hp]
          clear hp
          obtain ⟨fn, tmps, assign, body, hy, hR⟩ := HY.out pre ⟨(k, j), hlt, by omega⟩ _ HJ2.out hlen
          have hj0 : (0 : Int) ≤ (j : Int) := by omega
          simp only [encP] at hy
          gi_wp2_with (fail)
          refine ⟨trivial, fun h => (by cases h), (callsIn_wide.2 (none_walk (of k) (lf k) _)).mono ?_⟩
          rintro e w' ⟨rfl, rfl⟩
          rw [nn']
          gi_wp2_with (fail)
          refine ⟨fun h => (by cases h), hR.mono ?_⟩
          rintro e W3 (⟨rfl, hJ3, hk3⟩ | ⟨rfl, hJx3⟩)
          · have HJ3 : Hid (J (pre ++ [⟨(k, j), hlt, by omega⟩]) W3) := hJ3
            have HB3 : Hid (Below n₀ W W3) := HB2.out.trans hk3
            clear hJ3 hk3 hy
            gi_wp2
            go_roundw
            case rel => exact ⟨k + 1, pre ++ [⟨(k, j), hlt, by omega⟩], by omega, by simp, by rw [E1.out], by rw [E2.out, List.map_append, Hpre.out]; rfl, HJ3.out, HB3.out⟩
            case measure => simp [intOf]; omega
          · have HX : Hid (∃ pre, (∃ k, k ≤ m ∧ pre.map Subtype.val = pairsV (noneF of lf) k) ∧ Jx pre W3) := ⟨_, ⟨k + 1, by omega, by rw [E2.out, List.map_append, Hpre.out]; rfl⟩, hJx3⟩
            clear hJx3 hy
            gi_wp2
            refine bodyPost_ret (results_none rfl _ _ _) rfl ?_
            exact ⟨⟨_, rfl⟩, .inr HX.out⟩
    · obtain rfl : k = m := by omega
      gi_wp2
      go_end0
      exact ⟨⟨_, rfl⟩, .inl ⟨_, hpre, hJs⟩⟩

/-- The iterator's contract. -/
theorem iter_stops (n Bs n₀ g m cap : Nat) (of lf : Nat → Int) (hm : m ≤ 256) (hg : g < n₀) (w : World) (hBs : Bs < w.heap.size) (hn₀ : n₀ ≤ w.heap.size)
    (hc : w.cell? ⟨Bs, 0, none⟩ = some (.slice (some ⟨g, 0, none⟩) m cap)) (hV : VRow w g m of lf) :
    SeqStopsK Fence.wide n Ybaf.prog 22 #[.pointer (some ⟨Bs, 0, none⟩)] (encP (m := m)) (Below n₀) (fun ys => ys.map Subtype.val = pairsV (noneF of lf) m) (fun pre => ∃ k, k ≤ m ∧ pre.map Subtype.val = pairsV (noneF of lf) k) m w := fun l J Jx W hW hJ _ hY h0 => by
  have hc' := (hW.cell (p := ⟨Bs, 0, none⟩) hBs).trans hc
  refine (iter_in n l Bs n₀ g m cap of lf hm hg J Jx W (Nat.le_trans hn₀ hW.size) hJ hY hc' (hV.below (hW.mono hn₀) hg) h0).mono ?_
  rintro e W' ⟨he, ⟨ys, h1, h2⟩ | ⟨pre, hk, h⟩⟩
  · exact ⟨he, .inl ⟨ys, h1, h2⟩⟩
  · exact ⟨he, .inr ⟨pre, hk, h⟩⟩
end Go.Proofs.YbulkblqFmt
