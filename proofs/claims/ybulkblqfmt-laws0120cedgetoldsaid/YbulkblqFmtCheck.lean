import Derived.Test.YbulkblqFmtAppend
import Derived.LaidEqlPtr
import Derived.WalkSmall
import Derived.WideShapes
namespace Go.Proofs.YbulkblqFmt
open Go.RowKit Go.Extern.Stop Go.Stop Go.Extern
open Go.WideShapes (add_plain)

def u8s (l : List Int) : List Value := l.map (Value.int .u8)
theorem u8s_length (l : List Int) : (u8s l).length = l.length := by simp [u8s]
theorem u8s_get (l : List Int) (k : Nat) (h : k < l.length) : (u8s l)[k]? = some (.int .u8 (l.getD k 0)) := by
  simp [u8s, List.getD, List.getElem?_eq_getElem h]
theorem u8s_one (l : List Int) : ∀ u ∈ u8s l, u.oneCell' = true := by
  intro u hu
  obtain ⟨z, _, rfl⟩ := List.mem_map.1 hu
  rfl

theorem rowv_at {w : World} {a : Option Addr} {n c : Nat} {l : List Int} (h : RowV w a n c (u8s l)) (hn : l.length = n) {k : Nat} (hk : k < n) :
    ∃ b o, a = some ⟨b, o, none⟩ ∧ b < w.heap.size ∧ w.cell? ⟨b, o + k, none⟩ = some (.int .u8 (l.getD k 0)) := by
  rcases h.1 with ⟨rfl, rfl, rfl, h⟩ | ⟨ad, rfl, hl, hc⟩
  · omega
  · have h0 := hc k _ (u8s_get l k (by omega))
    obtain ⟨b, o, spot⟩ := ad
    have hspot : spot = none := by simpa [Addr.add] using World.cell?_spot (hc 0 _ (u8s_get l 0 (by omega)))
    subst hspot
    rw [add_plain] at h0
    exact ⟨b, o, rfl, World.block_lt_of_cell? w _ h0, h0⟩

/-- A slice of the call's own, as a source. -/
theorem own_src {w : World} {base : Nat} {v : Value} {n : Nat} {l : List Int} (h : w.ownsRow base 5 1 v n (u8s l)) :
    ∃ ao c, v = .slice ao n c ∧ RowV w ao n c (u8s l) ∧ ∀ ad, ao = some ad → base ≤ ad.block ∧ ad.block < w.heap.size := by
  rcases h.2 with ⟨rfl, rfl⟩ | ⟨g, cap, cur, rfl, hb, hg, rest⟩
  · have : u8s l = [] := List.eq_nil_of_length_eq_zero (by simpa using h.1)
    exact ⟨none, 0, rfl, ⟨.inl ⟨rfl, rfl, rfl, this⟩, u8s_one l⟩, by intro ad h; cases h⟩
  · refine ⟨_, _, rfl, ⟨.inr ⟨_, rfl, by simpa using h.1, h.cells (g := g) rfl⟩, u8s_one l⟩, ?_⟩
    intro ad had
    cases had
    exact ⟨hb, (Array.getElem?_eq_some_iff.1 hg).1⟩

/-- A slice of the call's own with at least one element, as cells. -/
theorem own_cells {w : World} {base : Nat} {v : Value} {n : Nat} {l : List Int} (h : w.ownsRow base 5 1 v n (u8s l)) (hn : 0 < n) :
    ∃ g cap, v = .slice (some ⟨g, 0, none⟩) n cap ∧ base ≤ g ∧ ∀ i, i < n → w.cell? ⟨g, i, none⟩ = some (.int .u8 (l.getD i 0)) := by
  have hl : l.length = n := by have := h.1; rw [u8s_length] at this; omega
  rcases h.2 with ⟨rfl, rfl⟩ | ⟨g, cap, cur, rfl, hb, hg, rest⟩
  · omega
  · refine ⟨g, cap, rfl, hb, fun i hi => ?_⟩
    have := h.cells (g := g) rfl i _ (u8s_get l i (by omega))
    rw [add_plain, Nat.zero_add] at this
    exact this

theorem u8s_cons (l1 l2 : List Int) (z : Int) : u8s l1 ++ .int .u8 z :: u8s l2 = u8s (l1 ++ z :: l2) := by simp [u8s]
theorem getD_left (l1 l2 : List Int) (z : Int) (k : Nat) (h : k < l1.length) : (l1 ++ z :: l2).getD k 0 = l1.getD k 0 := by
  simp [List.getD, List.getElem?_append_left h]
theorem getD_mid (l1 l2 : List Int) (z : Int) : (l1 ++ z :: l2).getD l1.length 0 = z := by
  simp [List.getD]
theorem getD_right (l1 l2 : List Int) (z : Int) (k : Nat) : (l1 ++ z :: l2).getD (l1.length + 1 + k) 0 = l2.getD k 0 := by
  simp only [List.getD]
  rw [List.getElem?_append_right (by omega)]
  rw [show l1.length + 1 + k - l1.length = k + 1 by omega]
  simp

theorem eql_e_same (a : Addr) (w : World) : (binOp .eql 40 (.pointer (some a)) (.pointer (some a))).run Ybaf.prog w = .ok (.bool true) w := by
  obtain ⟨j, hj⟩ : ∃ j, Ybaf.prog.info? 50 = some j := Option.isSome_iff_exists.1 (by kernel_rfl)
  exact run_eql_ptr_same w a Ybaf.underlying40 hj

/-- What the two copies are, behind both appends: B: a block number between them. -/
structure Pre2 (w w2 : World) (B : Nat) (v1 : Value) (n1 : Nat) (l1 : List Int) (ao : Option Addr) (n2 c : Nat) (l2 : List Int) : Prop where
  own1 : w2.ownsRow w.heap.size 5 1 v1 n1 (u8s l1)
  src2 : RowV w2 ao n2 c (u8s l2)
  lo : ∀ ad, ao = some ad → B ≤ ad.block ∧ ad.block < w2.heap.size
  b1 : ∀ k, v1.ownBlock = some k → k < B
  bel : Below w.heap.size w w2
  sz : w.heap.size ≤ B ∧ B ≤ w2.heap.size

theorem below_grown_none {w w' : World} (h : w.grownBy w' none) : Below w.heap.size w w' :=
  ⟨h.os, h.tape, h.output, h.size, fun k hk => h.block k hk (by simp)⟩

theorem pre2_mk {w w1 w2 : World} {v1 v2 : Value} {n1 n2 : Nat} {l1 l2 : List Int} (ho1 : w1.ownsRow w.heap.size 5 1 v1 n1 (u8s l1)) (hg1 : w.grownBy w1 none) (ho2 : w2.ownsRow w1.heap.size 5 1 v2 n2 (u8s l2)) (hg2 : w1.grownBy w2 none) :
    ∃ ao c, v2 = .slice ao n2 c ∧ Pre2 w w2 w1.heap.size v1 n1 l1 ao n2 c l2 := by
  obtain ⟨ao, c, rfl, hr, hlo⟩ := own_src ho2
  refine ⟨ao, c, rfl, ⟨ho1.kept hg2 (by cases v1.ownBlock <;> simp), hr, hlo, fun k hk => (ho1.lt k hk).2, (below_grown_none hg1).trans ((below_grown_none hg2).mono hg1.size), hg1.size, hg2.size⟩⟩

/-- What appendLV has left, where the value fits: got's cells, the cells of the two arguments, d's cell. -/
theorem after_short {w w2 W w3 : World} {B : Nat} {v1 v3 : Value} {n1 n2 c : Nat} {l1 l2 : List Int} {ao : Option Addr} (hP : Pre2 w w2 B v1 n1 l1 ao n2 c l2) (hW : Below w2.heap.size w2 W) (e1 : l1.length = n1)
    (ho : w3.ownsRow w.heap.size 5 1 v3 (n1 + 1 + n2) (u8s l1 ++ .int .u8 n2 :: u8s l2)) (hg : W.grownBy w3 v1.ownBlock) :
    ∃ g cap, v3 = .slice (some ⟨g, 0, none⟩) (n1 + 1 + n2) cap ∧ (∀ k, k < n1 → w3.cell? ⟨g, k, none⟩ = some (.int .u8 (l1.getD k 0))) ∧ w3.cell? ⟨g, n1, none⟩ = some (.int .u8 n2) ∧ (∀ k, k < n2 → w3.cell? ⟨g, n1 + 1 + k, none⟩ = some (.int .u8 (l2.getD k 0))) ∧
      Below w.heap.size w w3 ∧ ∀ o v, W.cell? ⟨w2.heap.size, o, none⟩ = some v → w3.cell? ⟨w2.heap.size, o, none⟩ = some v := by
  rw [u8s_cons] at ho
  obtain ⟨g, cap, rfl, hb, hc⟩ := own_cells ho (by omega)
  refine ⟨g, cap, rfl, fun k hk => ?_, ?_, fun k hk => ?_, ?_, fun o v hv => ?_⟩
  · rw [hc k (by omega), getD_left _ _ _ _ (by omega)]
  · rw [hc n1 (by omega)]
    subst e1
    rw [getD_mid]
  · rw [hc _ (by omega)]
    subst e1
    rw [getD_right]
  · have h1 : Below w.heap.size w W := hP.bel.trans (hW.mono hP.bel.size)
    refine h1.trans ⟨hg.os, hg.tape, hg.output, hg.size, fun k hk => hg.block k (Nat.lt_of_lt_of_le hk h1.size) ?_⟩
    intro e
    have := (hP.own1.lt k e.symm).1
    omega
  · refine hg.cell hv ?_
    intro e
    have := hP.b1 _ e.symm
    have := hP.sz.2
    simp at *
    omega

set_option maxRecDepth 100000 in
set_option maxHeartbeats 2000000 in
theorem check_short_no (a1 : Option Addr) (n1 c1 : Nat) (l1 : List Int) (a2 : Option Addr) (n2 c2 : Nat) (l2 : List Int) (w : World) (h1 : RowV w a1 n1 c1 (u8s l1)) (h2 : RowV w a2 n2 c2 (u8s l2)) (e1 : l1.length = n1) (e2 : l2.length = n2) (hn1 : n1 ≤ 1024) (hn2 : n2 ≤ 255) :
    Calls Ybaf.prog 13 #[.slice a1 n1 c1, .slice a2 n2 c2, .bool false] w fun e w' => e = .returned (.bool true) ∧ Below w.heap.size w w' := by
  have H1 : Hid (RowV w a1 n1 c1 (u8s l1)) := h1
  have H2 : Hid (RowV w a2 n2 c2 (u8s l2)) := h2
  have E1 : Hid (l1.length = n1) := e1
  have E2 : Hid (l2.length = n2) := e2
  clear h1 h2 e1 e2
  go_enter Ybaf.func13, Ybaf.ntmps13
  go_wp2_with (at_builtin; refine wp_append_bytes rfl _ _ rfl w.heap.size (.slice none 0 0) 0 [] rfl (World.ownsRow_nil _ _ _ _) a1 n1 c1 (u8s l1) rfl ?hs ?hb ?hB ?_)
  case hs => exact H1.out
  case hb => omega
  case hB => omega
  intro v1 w1 hown1 hg1 hat1
  have Hg1 : Hid (w.grownBy w1 none) := hg1
  have Ho1 : Hid (w1.ownsRow w.heap.size 5 1 v1 n1 (u8s l1)) := hown1
  clear hown1 hg1 hat1
  go_wp2_with (at_builtin; refine wp_append_bytes rfl _ _ rfl w1.heap.size (.slice none 0 0) 0 [] rfl (World.ownsRow_nil _ _ _ _) a2 n2 c2 (u8s l2) rfl ?hs ?hb ?hB ?_)
  case hs => exact H2.out.below Hg1.out (fun ad h => by simp)
  case hb => omega
  case hB => omega
  intro v2 w2 hown2 hg2 hat2
  obtain ⟨ao, c, rfl, hP⟩ := pre2_mk Ho1.out Hg1.out hown2 hg2
  have HP : Hid (Pre2 w w2 w1.heap.size v1 n1 l1 ao n2 c l2) := hP
  clear hP hown2 hg2 hat2 Hg1 Ho1
  go_wp2_with (fail)
  refine (lv_short w.heap.size v1 n1 (u8s l1) ao n2 c (u8s l2) _ _ _ ?_ ?_ ?_ hn2 hn1 ?_).mono ?_
  · exact HP.out.own1.alloc _
  · exact HP.out.src2.below (World.grownBy_alloc _ _ none) (fun ad h => by simp)
  · intro ad h
    have := HP.out.lo ad h
    refine ⟨fun e => ?_, by simp; omega⟩
    have := HP.out.b1 _ e.symm
    omega
  · have := HP.out.bel.size
    simp; omega
  rintro e w3 ⟨v3, rfl, ho3, hg3⟩
  obtain ⟨g, cap, rfl, q1, q2, q3, bel3, qd⟩ := after_short HP.out ((Below.refl _ _).alloc (Nat.le_refl _) _) E1.out ho3 hg3
  have hd := qd 0 (.pointer none) (by simp)
  have Hq1 : Hid (∀ k, k < n1 → w3.cell? ⟨g, k, none⟩ = some (.int .u8 (l1.getD k 0))) := q1
  have Hq3 : Hid (∀ k, k < n2 → w3.cell? ⟨g, n1 + 1 + k, none⟩ = some (.int .u8 (l2.getD k 0))) := q3
  have Hbel : Hid (Below w.heap.size w w3) := bel3
  clear q1 q3 bel3 qd ho3 hg3 HP
  have hle : (n2 : Int) ≤ 255 := by omega
  have hlt1 : (n1 : Int) < (n1 : Int) + 1 + (n2 : Int) := by omega
  go_wp2_with (fail)
  go_loopw [13] (fun i w' => (∃ k : Nat, k ≤ n1 ∧ i = .int .i64 k) ∧ ∃ q, w' = w3.drewN q) (fun i _ => n1 - (intOf i).toNat)
  case atStart => exact ⟨⟨0, Nat.zero_le _, rfl⟩, 0, rfl⟩
  case round =>
    obtain ⟨⟨k, hk, rfl⟩, q, rfl⟩ := hrel
    by_cases hlt : k < n1
    · obtain ⟨b, o, rfl, hbw, hc1⟩ := rowv_at H1.out E1.out hlt
      have hc1' := cell_later Hbel.out hc1
      have hcg := Hq1.out k hlt
      have hkn : (k : Int) < (n1 : Int) := by omega
      have hkn2 : (k : Int) < (n1 : Int) + 1 + (n2 : Int) := by omega
      clear hc1
      go_wp2
      go_quiet (fail)
      go_wp2
      go_roundw
      case rel => exact ⟨⟨k + 1, by omega, by go_num⟩, _, rfl⟩
      case measure => simp [intOf]; omega
    · go_wp2
      go_loopw [14] (fun i w' => (∃ k : Nat, k ≤ n2 ∧ i = .int .i64 k) ∧ ∃ q, w' = w3.drewN q) (fun i _ => n2 - (intOf i).toNat)
      case atStart => exact ⟨⟨0, Nat.zero_le _, rfl⟩, q, rfl⟩
      case round =>
        obtain ⟨⟨k', hk', rfl⟩, q', rfl⟩ := hrel
        by_cases hlt' : k' < n2
        · obtain ⟨b, o, rfl, hbw, hc1⟩ := rowv_at H2.out E2.out hlt'
          have hc1' := cell_later Hbel.out hc1
          have hcg := Hq3.out k' hlt'
          have hkn : (k' : Int) < (n2 : Int) := by omega
          have hkn2 : (n1 : Int) + 1 + (k' : Int) < (n1 : Int) + 1 + (n2 : Int) := by omega
          clear hc1
          go_wp2
          go_quiet (fail)
          go_wp2
          go_roundw
          case rel => exact ⟨⟨k' + 1, by omega, by go_num⟩, _, rfl⟩
          case measure => simp [intOf]; omega
        · go_wp2
          go_ret
          exact ⟨rfl, below_drewN Hbel.out _⟩
end Go.Proofs.YbulkblqFmt
