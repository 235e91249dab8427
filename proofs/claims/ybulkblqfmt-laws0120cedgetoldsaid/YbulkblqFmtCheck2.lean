import Derived.Test.YbulkblqFmtCheck
namespace Go.Proofs.YbulkblqFmt
open Go.RowKit Go.Extern.Stop Go.Stop Go.Extern

theorem rowv_below {w w' : World} {a : Option Addr} {n c : Nat} {l : List Int} (h : RowV w a n c (u8s l)) (hb : Below w.heap.size w w') : RowV w' a n c (u8s l) := by
  obtain ⟨h, h1⟩ := h
  refine ⟨?_, h1⟩
  rcases h with h | ⟨ad, rfl, hl, hc⟩
  · exact .inl h
  · exact .inr ⟨ad, rfl, hl, fun j u hu => cell_later hb (hc j u hu)⟩

set_option maxRecDepth 100000 in
set_option maxHeartbeats 2000000 in
theorem check_short_yes (a1 : Option Addr) (n1 c1 : Nat) (l1 : List Int) (a2 : Option Addr) (n2 c2 : Nat) (l2 : List Int) (w : World) (h1 : RowV w a1 n1 c1 (u8s l1)) (h2 : RowV w a2 n2 c2 (u8s l2)) (e1 : l1.length = n1) (e2 : l2.length = n2) (hn1 : n1 ≤ 1024) (hn2 : n2 ≤ 255) :
    Calls Ybaf.prog 13 #[.slice a1 n1 c1, .slice a2 n2 c2, .bool true] w fun e w' => e = .returned (.bool true) ∧ Below w.heap.size w w' := by
  have H1 : Hid (RowV w a1 n1 c1 (u8s l1)) := h1
  have H2 : Hid (RowV w a2 n2 c2 (u8s l2)) := h2
  have E1 : Hid (l1.length = n1) := e1
  have E2 : Hid (l2.length = n2) := e2
  clear h1 h2 e1 e2
  have hes := eql_e_same
  go_enter Ybaf.func13, Ybaf.ntmps13
  go_wp2_with (at_builtin; refine wp_append_bytes rfl _ _ rfl w.heap.size (.slice none 0 0) 0 [] rfl (World.ownsRow_nil _ _ _ _) a1 n1 c1 (u8s l1) rfl ?hs ?hb ?hB ?_)
  case hs => exact H1.out
  case hb => omega
  case hB => omega
  intro v1 w1 hown1 hg1 hat1
  have Hg1 : Hid (w.grownBy w1 none) := hg1
  have Ho1 : Hid (w1.ownsRow w.heap.size 5 1 v1 n1 (u8s l1)) := hown1
  clear hown1 hg1 hat1
  go_wp2_with (at_builtin; refine wp_append_bytes rfl _ _ rfl w1.heap.size (.slice none 0 0) 0 [] rfl (World.ownsRow_nil _ _ _ _) a2 n2 c2 (u8s l2) rfl ?hs ?hb ?hB ?_)
  case hs => exact H2.out.below Hg1.out (fun ad h => by simp)
  case hb => omega
  case hB => omega
  intro v2 w2 hown2 hg2 hat2
  obtain ⟨ao, c, rfl, hP⟩ := pre2_mk Ho1.out Hg1.out hown2 hg2
  have HP : Hid (Pre2 w w2 w1.heap.size v1 n1 l1 ao n2 c l2) := hP
  clear hP hown2 hg2 hat2 Hg1 Ho1
  go_wp2_with (fail)
  refine (lv_short w.heap.size v1 n1 (u8s l1) ao n2 c (u8s l2) _ _ _ ?_ ?_ ?_ hn2 hn1 ?_).mono ?_
  · exact (HP.out.own1.alloc _).alloc _
  · exact (HP.out.src2.below (World.grownBy_alloc _ _ none) (fun ad h => by simp)).below (World.grownBy_alloc _ _ none) (fun ad h => by simp)
  · intro ad h
    have := HP.out.lo ad h
    refine ⟨fun e => ?_, by simp; omega⟩
    have := HP.out.b1 _ e.symm
    omega
  · have := HP.out.bel.size
    simp; omega
  rintro e w3 ⟨v3, rfl, ho3, hg3⟩
  obtain ⟨g, cap, rfl, q1, q2, q3, bel3, qd⟩ := after_short HP.out (((Below.refl _ _).alloc (Nat.le_refl _) _).alloc (by simp) _) E1.out ho3 hg3
  have hd := qd 0 (.pointer (some ⟨w2.heap.size + 1, 0, none⟩)) (by simp)
  have Hq1 : Hid (∀ k, k < n1 → w3.cell? ⟨g, k, none⟩ = some (.int .u8 (l1.getD k 0))) := q1
  have Hq3 : Hid (∀ k, k < n2 → w3.cell? ⟨g, n1 + 1 + k, none⟩ = some (.int .u8 (l2.getD k 0))) := q3
  have Hbel : Hid (Below w.heap.size w w3) := bel3
  clear q1 q3 bel3 qd ho3 hg3 HP
  have hle : (n2 : Int) ≤ 255 := by omega
  have hlt1 : (n1 : Int) < (n1 : Int) + 1 + (n2 : Int) := by omega
  go_wp2_with (fail)
  go_loopw [13] (fun i w' => (∃ k : Nat, k ≤ n1 ∧ i = .int .i64 k) ∧ ∃ q, w' = w3.drewN q) (fun i _ => n1 - (intOf i).toNat)
  case atStart => exact ⟨⟨0, Nat.zero_le _, rfl⟩, 0, rfl⟩
  case round =>
    obtain ⟨⟨k, hk, rfl⟩, q, rfl⟩ := hrel
    by_cases hlt : k < n1
    · obtain ⟨b, o, rfl, hbw, hc1⟩ := rowv_at H1.out E1.out hlt
      have hc1' := cell_later Hbel.out hc1
      have hcg := Hq1.out k hlt
      have hkn : (k : Int) < (n1 : Int) := by omega
      have hkn2 : (k : Int) < (n1 : Int) + 1 + (n2 : Int) := by omega
      clear hc1
      go_wp2
      go_quiet (fail)
      go_wp2
      go_roundw
      case rel => exact ⟨⟨k + 1, by omega, by go_num⟩, _, rfl⟩
      case measure => simp [intOf]; omega
    · go_wp2
      go_loopw [14] (fun i w' => (∃ k : Nat, k ≤ n2 ∧ i = .int .i64 k) ∧ ∃ q, w' = w3.drewN q) (fun i _ => n2 - (intOf i).toNat)
      case atStart => exact ⟨⟨0, Nat.zero_le _, rfl⟩, q, rfl⟩
      case round =>
        obtain ⟨⟨k', hk', rfl⟩, q', rfl⟩ := hrel
        by_cases hlt' : k' < n2
        · obtain ⟨b, o, rfl, hbw, hc1⟩ := rowv_at H2.out E2.out hlt'
          have hc1' := cell_later Hbel.out hc1
          have hcg := Hq3.out k' hlt'
          have hkn : (k' : Int) < (n2 : Int) := by omega
          have hkn2 : (n1 : Int) + 1 + (k' : Int) < (n1 : Int) + 1 + (n2 : Int) := by omega
          clear hc1
          go_wp2
          go_quiet (fail)
          go_wp2
          go_roundw
          case rel => exact ⟨⟨k' + 1, by omega, by go_num⟩, _, rfl⟩
          case measure => simp [intOf]; omega
        · go_wp2
          go_ret
          exact ⟨rfl, below_drewN Hbel.out _⟩

set_option maxRecDepth 100000 in
set_option maxHeartbeats 2000000 in
theorem check_long_no (F : Interp) (a1 : Option Addr) (n1 c1 : Nat) (l1 : List Int) (a2 : Option Addr) (n2 c2 : Nat) (l2 : List Int) (w : World) (hF : F.answers w.tape) (h1 : RowV w a1 n1 c1 (u8s l1)) (h2 : RowV w a2 n2 c2 (u8s l2)) (e1 : l1.length = n1) (e2 : l2.length = n2) (hn1 : n1 ≤ 1024) (hn3 : 255 < n2) (hn2 : n2 ≤ 1024) :
    Calls Ybaf.prog 13 #[.slice a1 n1 c1, .slice a2 n2 c2, .bool false] w fun e w' => e = .returned (.bool true) ∧ Below w.heap.size w w' := by
  have H1 : Hid (RowV w a1 n1 c1 (u8s l1)) := h1
  have H2 : Hid (RowV w a2 n2 c2 (u8s l2)) := h2
  have E1 : Hid (l1.length = n1) := e1
  have E2 : Hid (l2.length = n2) := e2
  clear h1 h2 e1 e2
  go_enter Ybaf.func13, Ybaf.ntmps13
  go_wp2_with (at_builtin; refine wp_append_bytes rfl _ _ rfl w.heap.size (.slice none 0 0) 0 [] rfl (World.ownsRow_nil _ _ _ _) a1 n1 c1 (u8s l1) rfl ?hs ?hb ?hB ?_)
  case hs => exact H1.out
  case hb => omega
  case hB => omega
  intro v1 w1 hown1 hg1 hat1
  have Hg1 : Hid (w.grownBy w1 none) := hg1
  have Ho1 : Hid (w1.ownsRow w.heap.size 5 1 v1 n1 (u8s l1)) := hown1
  clear hown1 hg1 hat1
  go_wp2_with (at_builtin; refine wp_append_bytes rfl _ _ rfl w1.heap.size (.slice none 0 0) 0 [] rfl (World.ownsRow_nil _ _ _ _) a2 n2 c2 (u8s l2) rfl ?hs ?hb ?hB ?_)
  case hs => exact H2.out.below Hg1.out (fun ad h => by simp)
  case hb => omega
  case hB => omega
  intro v2 w2 hown2 hg2 hat2
  obtain ⟨ao, c, rfl, hP⟩ := pre2_mk Ho1.out Hg1.out hown2 hg2
  have HP : Hid (Pre2 w w2 w1.heap.size v1 n1 l1 ao n2 c l2) := hP
  clear hP hown2 hg2 hat2 Hg1 Ho1
  obtain ⟨ao1, cc1, rfl, hgot⟩ : ∃ ao1 cc1, v1 = .slice ao1 n1 cc1 ∧ RowV w2 ao1 n1 cc1 (u8s l1) := by
    obtain ⟨ao1, cc1, h, hr, _⟩ := own_src HP.out.own1
    exact ⟨ao1, cc1, h, hr⟩
  have Hgot2 : Hid (RowV w2 ao1 n1 cc1 (u8s l1)) := hgot
  have Hb2 : Hid (Below w.heap.size w w2) := HP.out.bel
  clear hgot
  go_wp2_with (fail)
  refine (lv_long_new F _ ao n2 c _ w2.heap.size _ ?_ hn3 hn2 ?_ ?_ ?_).mono ?_
  · show F.answers w2.tape
    rw [Hb2.out.tape]; exact hF
  · simp
  · simp [go_sem]
  · simp [go_sem]
  rintro e w3 ⟨rfl, cs, txt, hw3⟩
  have bel23 : Below w2.heap.size w2 w3 := by
    rw [hw3]
    exact (((((Below.refl _ _).alloc (Nat.le_refl _) _).setCell (p := ⟨w2.heap.size, 0, none⟩) (Nat.le_refl _) _).alloc (by simp) _).alloc (by simp; omega) _).drew
  have hd : w3.cell? ⟨w2.heap.size, 0, none⟩ = some (.pointer (some ⟨w2.heap.size + 1 + 1, 0, none⟩)) := by rw [hw3]; simp [go_sem]
  have hr : w3.cell? ⟨w2.heap.size + 1 + 1, 0, none⟩ = some (.string ⟨#[116, 111, 111, 45, 108, 111, 110, 103]⟩) := by rw [hw3]; simp [go_sem, longRule]
  have Hgot : Hid (RowV w3 ao1 n1 cc1 (u8s l1)) := rowv_below Hgot2.out bel23
  have Hbel : Hid (Below w.heap.size w w3) := Hb2.out.trans (bel23.mono Hb2.out.size)
  clear bel23 hw3 Hgot2 Hb2
  clear HP
  have hle : (255 : Int) < (n2 : Int) := by omega
  go_wp2_with (fail)
  go_loopw [12] (fun i w' => (∃ k : Nat, k ≤ n1 ∧ i = .int .i64 k) ∧ ∃ q, w' = w3.drewN q) (fun i _ => n1 - (intOf i).toNat)
  case atStart => exact ⟨⟨0, Nat.zero_le _, rfl⟩, 0, rfl⟩
  case round =>
    obtain ⟨⟨k, hk, rfl⟩, q, rfl⟩ := hrel
    by_cases hlt : k < n1
    · obtain ⟨b, o, rfl, hbw, hc1⟩ := rowv_at H1.out E1.out hlt
      have hc1' := cell_later Hbel.out hc1
      obtain ⟨b', o', rfl, hbw', hcg⟩ := rowv_at Hgot.out E1.out hlt
      have hkn : (k : Int) < (n1 : Int) := by omega
      clear hc1
      go_wp2
      go_quiet (fail)
      go_wp2
      go_roundw
      case rel => exact ⟨⟨k + 1, by omega, by go_num⟩, _, rfl⟩
      case measure => simp [intOf]; omega
    · go_wp2
      go_ret
      exact ⟨rfl, below_drewN Hbel.out _⟩

set_option maxRecDepth 100000 in
set_option maxHeartbeats 2000000 in
theorem check_long_yes (a1 : Option Addr) (n1 c1 : Nat) (l1 : List Int) (a2 : Option Addr) (n2 c2 : Nat) (l2 : List Int) (w : World) (h1 : RowV w a1 n1 c1 (u8s l1)) (h2 : RowV w a2 n2 c2 (u8s l2)) (e1 : l1.length = n1) (e2 : l2.length = n2) (hn1 : n1 ≤ 1024) (hn3 : 255 < n2) (hn2 : n2 ≤ 1024) :
    Calls Ybaf.prog 13 #[.slice a1 n1 c1, .slice a2 n2 c2, .bool true] w fun e w' => e = .returned (.bool true) ∧ Below w.heap.size w w' := by
  have H1 : Hid (RowV w a1 n1 c1 (u8s l1)) := h1
  have H2 : Hid (RowV w a2 n2 c2 (u8s l2)) := h2
  have E1 : Hid (l1.length = n1) := e1
  have E2 : Hid (l2.length = n2) := e2
  clear h1 h2 e1 e2
  have hes := eql_e_same
  go_enter Ybaf.func13, Ybaf.ntmps13
  go_wp2_with (at_builtin; refine wp_append_bytes rfl _ _ rfl w.heap.size (.slice none 0 0) 0 [] rfl (World.ownsRow_nil _ _ _ _) a1 n1 c1 (u8s l1) rfl ?hs ?hb ?hB ?_)
  case hs => exact H1.out
  case hb => omega
  case hB => omega
  intro v1 w1 hown1 hg1 hat1
  have Hg1 : Hid (w.grownBy w1 none) := hg1
  have Ho1 : Hid (w1.ownsRow w.heap.size 5 1 v1 n1 (u8s l1)) := hown1
  clear hown1 hg1 hat1
  go_wp2_with (at_builtin; refine wp_append_bytes rfl _ _ rfl w1.heap.size (.slice none 0 0) 0 [] rfl (World.ownsRow_nil _ _ _ _) a2 n2 c2 (u8s l2) rfl ?hs ?hb ?hB ?_)
  case hs => exact H2.out.below Hg1.out (fun ad h => by simp)
  case hb => omega
  case hB => omega
  intro v2 w2 hown2 hg2 hat2
  obtain ⟨ao, c, rfl, hP⟩ := pre2_mk Ho1.out Hg1.out hown2 hg2
  have HP : Hid (Pre2 w w2 w1.heap.size v1 n1 l1 ao n2 c l2) := hP
  clear hP hown2 hg2 hat2 Hg1 Ho1
  obtain ⟨ao1, cc1, rfl, hgot⟩ : ∃ ao1 cc1, v1 = .slice ao1 n1 cc1 ∧ RowV w2 ao1 n1 cc1 (u8s l1) := by
    obtain ⟨ao1, cc1, h, hr, _⟩ := own_src HP.out.own1
    exact ⟨ao1, cc1, h, hr⟩
  have Hgot2 : Hid (RowV w2 ao1 n1 cc1 (u8s l1)) := hgot
  have Hb2 : Hid (Below w.heap.size w w2) := HP.out.bel
  clear hgot
  go_wp2_with (fail)
  refine (lv_long_old _ ao n2 c _ w2.heap.size (w2.heap.size + 1) _ hn3 hn2 ?_ ?_).mono ?_
  · simp; omega
  · simp [go_sem]
  rintro e w3 ⟨rfl, cs, hw3⟩
  have bel23 : Below w2.heap.size w2 w3 := by
    rw [hw3]
    exact ((((Below.refl _ _).alloc (Nat.le_refl _) _).alloc (by simp) _).alloc (by simp; omega) _)
  have hd : w3.cell? ⟨w2.heap.size, 0, none⟩ = some (.pointer (some ⟨w2.heap.size + 1, 0, none⟩)) := by rw [hw3]; simp [go_sem]
  have Hgot : Hid (RowV w3 ao1 n1 cc1 (u8s l1)) := rowv_below Hgot2.out bel23
  have Hbel : Hid (Below w.heap.size w w3) := Hb2.out.trans (bel23.mono Hb2.out.size)
  clear bel23 hw3 Hgot2 Hb2
  clear HP
  have hle : (255 : Int) < (n2 : Int) := by omega
  go_wp2_with (fail)
  go_loopw [12] (fun i w' => (∃ k : Nat, k ≤ n1 ∧ i = .int .i64 k) ∧ ∃ q, w' = w3.drewN q) (fun i _ => n1 - (intOf i).toNat)
  case atStart => exact ⟨⟨0, Nat.zero_le _, rfl⟩, 0, rfl⟩
  case round =>
    obtain ⟨⟨k, hk, rfl⟩, q, rfl⟩ := hrel
    by_cases hlt : k < n1
    · obtain ⟨b, o, rfl, hbw, hc1⟩ := rowv_at H1.out E1.out hlt
      have hc1' := cell_later Hbel.out hc1
      obtain ⟨b', o', rfl, hbw', hcg⟩ := rowv_at Hgot.out E1.out hlt
      have hkn : (k : Int) < (n1 : Int) := by omega
      clear hc1
      go_wp2
      go_quiet (fail)
      go_wp2
      go_roundw
      case rel => exact ⟨⟨k + 1, by omega, by go_num⟩, _, rfl⟩
      case measure => simp [intOf]; omega
    · go_wp2
      go_ret
      exact ⟨rfl, below_drewN Hbel.out _⟩

/-- 'zzs0120ccheck' answers true. -/
theorem check_any (F : Interp) (a1 : Option Addr) (n1 c1 : Nat) (l1 : List Int) (a2 : Option Addr) (n2 c2 : Nat) (l2 : List Int) (pre : Bool) (w : World) (hF : F.answers w.tape) (h1 : RowV w a1 n1 c1 (u8s l1)) (h2 : RowV w a2 n2 c2 (u8s l2)) (e1 : l1.length = n1) (e2 : l2.length = n2) (hn1 : n1 ≤ 1024) (hn2 : n2 ≤ 1024) :
    Calls Ybaf.prog 13 #[.slice a1 n1 c1, .slice a2 n2 c2, .bool pre] w fun e w' => e = .returned (.bool true) ∧ Below w.heap.size w w' := by
  by_cases hl : n2 ≤ 255
  · cases pre with
    | false => exact check_short_no a1 n1 c1 l1 a2 n2 c2 l2 w h1 h2 e1 e2 hn1 hl
    | true => exact check_short_yes a1 n1 c1 l1 a2 n2 c2 l2 w h1 h2 e1 e2 hn1 hl
  · cases pre with
    | false => exact check_long_no F a1 n1 c1 l1 a2 n2 c2 l2 w hF h1 h2 e1 e2 hn1 (by omega) hn2
    | true => exact check_long_yes a1 n1 c1 l1 a2 n2 c2 l2 w h1 h2 e1 e2 hn1 (by omega) hn2
end Go.Proofs.YbulkblqFmt
