import Derived.Test.YbulkblqFmtRe
import Derived.Test.YbulkblqFmtP
import Derived.Deep.OwnRows
import Derived.LoopTactic
namespace Go.Proofs.YbulkblqFmt
open Go.RowKit

theorem Ybaf.info3 : (Ybaf.prog.info? 3).map (fun i => (i.zero, i.size, i.bytes)) = some (some (.int .i64 0), 1, 8) := by kernel_rfl

/-- A row of k ints of the walk's own, of which the first kk are written. -/
structure Arr (w : World) (g k : Nat) (f : Nat → Int) (kk : Nat) : Prop where
  lt : g < w.heap.size
  cell : ∀ j, j < k → w.cell? ⟨g, j, none⟩ = some (.int .i64 (if j < kk then f j else 0))
  fz : ∀ j, w.frozen? ⟨g, j, none⟩ = false

theorem Arr.drewN {w : World} {g k : Nat} {f : Nat → Int} {kk : Nat} (h : Arr w g k f kk) (q : Nat) : Arr (w.drewN q) g k f kk := ⟨h.lt, h.cell, h.fz⟩
theorem Arr.set {w : World} {g k : Nat} {f : Nat → Int} {kk : Nat} (h : Arr w g k f kk) (hk : kk < k) : Arr (w.setCell ⟨g, kk, none⟩ (.int .i64 (f kk))) g k f (kk + 1) := by
  refine ⟨by simpa [World.setCell] using h.lt, fun j hj => ?_, fun j => by rw [World.frozen?_setCell]; exact h.fz j⟩
  by_cases e : j = kk
  · subst e
    rw [World.cell?_setCell_same _ _ _ (h.cell j hj), if_pos (by omega)]
  · rw [World.cell?_setCell_other _ _ _ _ (by simp), h.cell j hj]
    by_cases e2 : j < kk
    · rw [if_pos e2, if_pos (by omega)]
    · rw [if_neg e2, if_neg (by omega)]
theorem Arr.far {w : World} {g k : Nat} {f : Nat → Int} {kk : Nat} (h : Arr w g k f kk) (g' j' : Nat) (v : Value) (hne : g' ≠ g) : Arr (w.setCell ⟨g', j', none⟩ v) g k f kk :=
  ⟨by simpa [World.setCell] using h.lt, fun j hj => by rw [World.cell?_setCell_far _ _ _ _ hne]; exact h.cell j hj, fun j => by rw [World.frozen?_setCell]; exact h.fz j⟩

/-- The row of the pointer words' places. -/
def AtRow (w : World) (g o k : Nat) (at_ : Nat → Nat) : Prop := g < w.heap.size ∧ ∀ i, i < k → w.cell? ⟨g, o + i, none⟩ = some (.int .i64 (at_ i : Nat))
theorem AtRow.below {w w' : World} {g o k : Nat} {at_ : Nat → Nat} (h : AtRow w g o k at_) (hB : Below w.heap.size w w') : AtRow w' g o k at_ :=
  ⟨Nat.lt_of_lt_of_le h.1 hB.size, fun i hi => (hB.cell (p := ⟨g, o + i, none⟩) h.1).trans (h.2 i hi)⟩

theorem word_row (b o nd cap at_ : Nat) (fz : Nat → Int) (w : World) (h : ByteRow w b o (o + nd) fz) (hz : ∀ j, 0 ≤ fz j ∧ fz j ≤ 255) (hat : at_ + 1 < nd) (hnd : nd ≤ 4096) :
    Calls Ybaf.prog 18 #[.slice (some ⟨b, o, none⟩) nd cap, .int .i64 at_] w fun e w' => e = .returned (.int .i64 (word fz (o + at_))) ∧ ∃ q, w' = w.drewN q :=
  word_walk b o nd cap at_ (fz (o + at_)) (fz (o + at_ + 1)) w (h.2 _ (by omega) (by omega)) (h.2 (o + at_ + 1) (by omega) (by omega)) (hz _) (hz _) hat hnd

theorem word_row' (b o nd cap at_ : Nat) (x : Int) (fz : Nat → Int) (w : World) (h : ByteRow w b o (o + nd) fz) (hz : ∀ j, 0 ≤ fz j ∧ fz j ≤ 255) (hat : at_ + 1 < nd) (hnd : nd ≤ 4096) (hx : x = (at_ : Nat)) :
    Calls Ybaf.prog 18 #[.slice (some ⟨b, o, none⟩) nd cap, .int .i64 x] w fun e w' => e = .returned (.int .i64 (word fz (o + at_))) ∧ ∃ q, w' = w.drewN q := by
  subst hx
  exact word_row b o nd cap at_ fz w h hz hat hnd

/-- What the first loop of the model leaves. -/
def Laid (w : World) (g k : Nat) (of lf : Nat → Int) : Prop := ∀ i, i < k → w.cell? ⟨g, i, none⟩ = some (.int .i64 (of i)) ∧ w.cell? ⟨g + 1, i, none⟩ = some (.int .i64 (lf i))

theorem made_arr (w : World) (k : Nat) (f : Nat → Int) : Arr (w.alloc (.cells (madeCells #[.int .i64 0] k) 3)) w.heap.size k f 0 := by
  have e : madeCells #[Value.int .i64 0] k = (List.replicate k (Value.int .i64 0)).toArray := by rw [← toList_madeCells_one]
  refine ⟨by simp, fun j hj => ?_, fun j => by simp [go_sem]⟩
  rw [e]
  simp [go_sem, hj]
theorem Arr.alloc {w : World} {g k : Nat} {f : Nat → Int} {kk : Nat} (h : Arr w g k f kk) (x : Obj) : Arr (w.alloc x) g k f kk := by
  have hB : Below w.heap.size w (w.alloc x) := (Below.refl _ _).alloc (Nat.le_refl _) _
  exact ⟨Nat.lt_of_lt_of_le h.lt hB.size, fun j hj => (hB.cell (p := ⟨g, j, none⟩) h.lt).trans (h.cell j hj), fun j => (hB.frozen (p := ⟨g, j, none⟩) h.lt).trans (h.fz j)⟩

theorem Laid.of {w : World} {g k : Nat} {of lf : Nat → Int} (h0 : Arr w g k of k) (h1 : Arr w (g + 1) k lf k) : Laid w g k of lf := fun i hi => by
  have := h0.cell i hi
  have := h1.cell i hi
  rw [if_pos hi] at *
  exact ⟨by assumption, by assumption⟩

set_option maxRecDepth 100000 in
set_option maxHeartbeats 2000000 in
/-- 'zzs0120amodel'. -/
theorem model_walk (ad aa : Option Addr) (nd cd k ca : Nat) (fixed : Int) (at_ : Nat → Nat) (fz of lf : Nat → Int) (w : World) (hk : k ≤ 256) (hnd : nd ≤ 4096) (hz : ∀ j, 0 ≤ fz j ∧ fz j ≤ 255)
    (hD : k = 0 ∨ ∃ b o ga oa, ad = some ⟨b, o, none⟩ ∧ aa = some ⟨ga, oa, none⟩ ∧ ByteRow w b o (o + nd) fz ∧ AtRow w ga oa k at_ ∧ ∀ i, i < k → at_ i + 3 < nd ∧ of i = word fz (o + at_ i) ∧ lf i = word fz (o + (at_ i + 2))) 
    (hof : ∀ i, 0 ≤ of i ∧ of i ≤ 65535) (hlf : ∀ i, 0 ≤ lf i ∧ lf i ≤ 65535) :
    Calls Ybaf.prog 10 #[.slice ad nd cd, .int .i64 fixed, .slice aa k ca] w fun e w' => e = .returned (.string (ruleOf of lf k fixed nd)) ∧ Below w.heap.size w w' := by
  have HD : Hid (k = 0 ∨ ∃ b o ga oa, ad = some ⟨b, o, none⟩ ∧ aa = some ⟨ga, oa, none⟩ ∧ ByteRow w b o (o + nd) fz ∧ AtRow w ga oa k at_ ∧ ∀ i, i < k → at_ i + 3 < nd ∧ of i = word fz (o + at_ i) ∧ lf i = word fz (o + (at_ i + 2))) := hD
  have Hz : Hid (∀ j, 0 ≤ fz j ∧ fz j ≤ 255) := hz
  have Hof : Hid (∀ i, 0 ≤ of i ∧ of i ≤ 65535) := hof
  have Hlf : Hid (∀ i, 0 ≤ lf i ∧ lf i ≤ 65535) := hlf
  clear hD hz hof hlf
  have hmk := run_make_row' (P := Ybaf.prog) 24 3 (.int .i64 0) 8 Ybaf.underlying24 Ybaf.info3 rfl .i64 .i64 k (by omega) (by omega)
  go_enter Ybaf.func10, Ybaf.ntmps10
  go_wp2_with (fail)
  have HB0 : Hid (Below w.heap.size w ((w.alloc (.cells (madeCells #[.int .i64 0] k) 3)).alloc (.cells (madeCells #[.int .i64 0] k) 3))) := belowA (belowA (Below.refl _ _) _) _
  have HA0 : Hid (Arr ((w.alloc (.cells (madeCells #[.int .i64 0] k) 3)).alloc (.cells (madeCells #[.int .i64 0] k) 3)) w.heap.size k of 0) := (made_arr w k of).alloc _
  have HA1 : Hid (Arr ((w.alloc (.cells (madeCells #[.int .i64 0] k) 3)).alloc (.cells (madeCells #[.int .i64 0] k) 3)) (w.heap.size + 1) k lf 0) := by
    have := made_arr (w.alloc (.cells (madeCells #[.int .i64 0] k) 3)) k lf
    rw [World.size_alloc] at this
    exact this
  go_loopw [10] (fun i w' => ∃ kk : Nat, kk ≤ k ∧ i = .int .i64 kk ∧ Arr w' w.heap.size k of kk ∧ Arr w' (w.heap.size + 1) k lf kk ∧ Below w.heap.size w w') (fun i _ => k - (intOf i).toNat)
  case atStart => exact ⟨0, Nat.zero_le _, rfl, HA0.out, HA1.out, HB0.out⟩
  case round =>
    clear HA0 HA1 HB0
    obtain ⟨kk, hkk, rfl, hA0, hA1, hB⟩ := hrel
    by_cases hlt : kk < k
    · have hkn : (kk : Int) < (k : Int) := by omega
      obtain ⟨b, o, ga, oa, rfl, rfl, hrow, hat, hof⟩ := HD.out.resolve_left (by omega)
      have h1 := (hat.below hB).2 kk hlt
      have hb0 := hrow.1
      have hg0 := hat.1
      obtain ⟨h3, h4, h5⟩ := hof kk hlt
      have hrow1 := hrow.below hB
      have c0 := hA0.cell kk hlt
      have c1 := hA1.cell kk hlt
      have f0 := hA0.fz kk
      have f1 := hA1.fz kk
      rw [if_neg (by omega)] at c0 c1
      have HA0 : Hid (Arr wr w.heap.size k of kk) := hA0
      have HA1 : Hid (Arr wr (w.heap.size + 1) k lf kk) := hA1
      have HB : Hid (Below w.heap.size w wr) := hB
      have Hrow : Hid (ByteRow wr b o (o + nd) fz) := hrow1
      have H4 : Hid (word fz (o + at_ kk) = of kk) := h4.symm
      have H5 : Hid (word fz (o + (at_ kk + 2)) = lf kk) := h5.symm
      have h3' : (at_ kk : Int) ≤ 4096 := by omega
      clear hA0 hA1 hB hrow hrow1 h4 h5 hof hat
      have wh : w.heap.size ≠ w.heap.size + 1 := by omega
      have hbw : w.heap.size ≠ b := by omega
      have hgw : ¬ w.heap.size = ga := by omega
      go_wp2_with (fail)
      refine (word_row b o nd cd (at_ kk) fz wr Hrow.out Hz.out (by omega) hnd).mono ?_
      rintro e w1 ⟨rfl, q, rfl⟩
      rw [H4.out]
      go_wp2_with (fail)
      refine (word_row' b o nd cd (at_ kk + 2) _ fz _ ?_ Hz.out (by omega) hnd (by omega)).mono ?_
      · exact (Hrow.out.drewN q).setCell _ _ hbw
      rintro e w1 ⟨rfl, q', rfl⟩
      rw [H5.out]
      go_wp2_with (fail)
      go_roundw
      case rel => exact ⟨kk + 1, by omega, by go_num, (((HA0.out.drewN q).set hlt).drewN q').far _ _ _ wh.symm, (((HA1.out.drewN q).far _ _ _ wh).drewN q').set hlt, (belowN ((belowN HB.out q).setCell (p := ⟨w.heap.size, kk, none⟩) (Nat.le_refl _) _) q').setCell (p := ⟨w.heap.size + 1, kk, none⟩) (by show w.heap.size ≤ w.heap.size + 1; omega) _⟩
      case measure => simp [intOf]; omega
    · obtain rfl : kk = k := by omega
      have HL : Hid (Laid wr w.heap.size kk of lf) := Laid.of hA0 hA1
      have HB : Hid (Below w.heap.size w wr) := hB
      clear hA0 hA1 hB HD Hz hlt hmk
      go_wp2_with (fail)
      go_loop [11] (fun i => ∃ k1 : Nat, k1 ≤ kk ∧ i = .int .i64 k1 ∧ anyUpto (p1 of fixed) k1 = false) (fun i => kk - (intOf i).toNat)
      case atStart => exact ⟨0, Nat.zero_le _, rfl, rfl⟩
      case round =>
        obtain ⟨k1, hk1, rfl, hn1⟩ := hrel
        have N1 : Hid (anyUpto (p1 of fixed) k1 = false) := hn1
        clear hn1
        by_cases hlt : k1 < kk
        · have hkn : (k1 : Int) < (kk : Int) := by omega
          have hc := (HL.out k1 hlt).1
          by_cases h0 : of k1 = 0
          · have h0' : (of k1 != 0) = false := by simp [h0]
            have P : Hid (p1 of fixed k1 = false) := by show _ = _; simp [p1, h0]
            rw [h0] at hc
            go_wp2
            go_round
            case rel => exact ⟨k1 + 1, by omega, by go_num, anyUpto_keep N1.out P.out⟩
            case measure => simp [intOf]; omega
          · have h0' : (of k1 != 0) = true := by simp [h0]
            by_cases h1 : of k1 < fixed
            · have P : Hid (p1 of fixed k1 = true) := by show _ = _; simp [p1, h0, h1]
              go_wp2
              go_ret
              exact ⟨by rw [rule1 hlt P.out]; rfl, HB.out⟩
            · have P : Hid (p1 of fixed k1 = false) := by show _ = _; simp [p1, h1]
              go_wp2
              go_round
              case rel => exact ⟨k1 + 1, by omega, by go_num, anyUpto_keep N1.out P.out⟩
              case measure => simp [intOf]; omega
        · obtain rfl : k1 = kk := by omega
          clear hlt
          go_wp2_with (fail)
          go_loopw [12] (fun i w' => (∃ k2 : Nat, k2 ≤ k1 ∧ i = .int .i64 k2 ∧ anyUpto (p2 of lf nd) k2 = false) ∧ ∃ q, w' = wr.drewN q) (fun i _ => k1 - (intOf i).toNat)
          case atStart => exact ⟨⟨0, Nat.zero_le _, rfl, rfl⟩, 0, rfl⟩
          case round =>
            obtain ⟨⟨k2, hk2, rfl, hn2⟩, q, rfl⟩ := hrel
            have N2 : Hid (anyUpto (p2 of lf nd) k2 = false) := hn2
            clear hn2
            by_cases hlt : k2 < k1
            · have hkn : (k2 : Int) < (k1 : Int) := by omega
              obtain ⟨hc0, hc1⟩ := HL.out k2 hlt
              obtain ⟨b0, b1⟩ := Hof.out k2
              obtain ⟨b2, b3⟩ := Hlf.out k2
              by_cases h0 : of k2 = 0
              · have h0' : (of k2 != 0) = false := by simp [h0]
                have P : Hid (p2 of lf nd k2 = false) := by show _ = _; simp [p2, h0]
                rw [h0] at hc0
                go_wp2
                go_quiet (fail)
                go_wp2
                go_roundw
                case rel => exact ⟨⟨k2 + 1, by omega, by go_num, anyUpto_keep N2.out P.out⟩, _, rfl⟩
                case measure => simp [intOf]; omega
              · have h0' : (of k2 != 0) = true := by simp [h0]
                by_cases h1 : (nd : Int) < of k2 + lf k2
                · have P : Hid (p2 of lf nd k2 = true) := by show _ = _; simp [p2, h0, h1]
                  go_wp2
                  go_quiet (fail)
                  go_wp2
                  go_ret
                  exact ⟨by rw [rule2 N1.out hlt P.out]; rfl, belowN (belowN HB.out _) _⟩
                · have P : Hid (p2 of lf nd k2 = false) := by show _ = _; simp [p2, h1]
                  go_wp2
                  go_quiet (fail)
                  go_wp2
                  go_roundw
                  case rel => exact ⟨⟨k2 + 1, by omega, by go_num, anyUpto_keep N2.out P.out⟩, _, rfl⟩
                  case measure => simp [intOf]; omega
            · obtain rfl : k2 = k1 := by omega
              clear hlt
              go_wp2_with (fail)
              go_loopw [13, 14] (fun pr i w' => (∃ k3 : Nat, k3 ≤ k2 ∧ i = .int .i64 k3 ∧ pr = .int .i64 (prevAt (noneF of lf) k3) ∧ anyUpto (p3 of lf) k3 = false) ∧ ∃ q, w' = wr.drewN q) (fun _ i _ => k2 - (intOf i).toNat)
              case atStart => exact ⟨⟨0, Nat.zero_le _, rfl, rfl, rfl⟩, _, rfl⟩
              case round =>
                obtain ⟨⟨k3, hk3, rfl, rfl, hn⟩, q, rfl⟩ := hrel
                have N3 : Hid (anyUpto (p3 of lf) k3 = false) := hn
                clear hn
                by_cases hlt : k3 < k2
                · have hkn : (k3 : Int) < (k2 : Int) := by omega
                  obtain ⟨hc0, hc1⟩ := HL.out k3 hlt
                  obtain ⟨b0, b1⟩ := Hof.out k3
                  obtain ⟨b2, b3⟩ := Hlf.out k3
                  by_cases h0 : of k3 = 0
                  · have nn : noneF of lf k3 = true := by simp [noneF, h0]
                    have P : Hid (p3 of lf k3 = false) := by show _ = _; simp [p3, nn]
                    have E : Hid (prevAt (noneF of lf) (k3 + 1) = prevAt (noneF of lf) k3) := prevAt_skip nn
                    clear nn
                    rw [h0] at hc0
                    go_wp2
                    go_roundw
                    case rel => exact ⟨⟨k3 + 1, by omega, by go_num, by rw [E.out], anyUpto_keep N3.out P.out⟩, _, rfl⟩
                    case measure => simp [intOf]; omega
                  · have h0' : (of k3 == 0) = false := by simp [h0]
                    by_cases h1 : lf k3 = 0
                    · have nn : noneF of lf k3 = true := by simp [noneF, h1]
                      have P : Hid (p3 of lf k3 = false) := by show _ = _; simp [p3, nn]
                      have E : Hid (prevAt (noneF of lf) (k3 + 1) = prevAt (noneF of lf) k3) := prevAt_skip nn
                      clear nn
                      rw [h1] at hc1
                      go_wp2
                      go_roundw
                      case rel => exact ⟨⟨k3 + 1, by omega, by go_num, by rw [E.out], anyUpto_keep N3.out P.out⟩, _, rfl⟩
                      case measure => simp [intOf]; omega
                    · have h1' : (lf k3 == 0) = false := by simp [h1]
                      have nn : noneF of lf k3 = false := by simp [noneF, h0, h1]
                      have E : Hid (prevAt (noneF of lf) (k3 + 1) = (k3 : Int)) := prevAt_take nn
                      rcases prevAt_cases (noneF of lf) k3 with hp | ⟨j, hj, hp⟩
                      · have P : Hid (p3 of lf k3 = false) := by show _ = _; simp [p3, hp]
                        rw [hp]
                        clear nn hp
                        go_wp2
                        go_quiet (fail)
                        go_wp2
                        go_roundw
                        case rel => exact ⟨⟨k3 + 1, by omega, by go_num, by rw [E.out], anyUpto_keep N3.out P.out⟩, _, rfl⟩
                        case measure => simp [intOf]; omega
                      · obtain ⟨hd0, hd1⟩ := HL.out j (by omega)
                        have hjn : (j : Int) < (k2 : Int) := by omega
                        obtain ⟨d0, d1⟩ := Hof.out j
                        obtain ⟨d2, d3⟩ := Hlf.out j
                        by_cases hx : of k3 < of j
                        · have P : Hid (p3 of lf k3 = true) := by show _ = _; simp [p3, nn, hp, hx]
                          rw [hp]
                          clear nn hp
                          go_wp2
                          go_quiet (fail)
                          go_wp2
                          go_ret
                          exact ⟨by rw [rule3 N1.out N2.out hlt P.out]; rfl, belowN (belowN HB.out _) _⟩
                        · have P : Hid (p3 of lf k3 = false) := by show _ = _; simp [p3, hp, hx]
                          rw [hp]
                          clear nn hp
                          go_wp2
                          go_quiet (fail)
                          go_wp2
                          go_roundw
                          case rel => exact ⟨⟨k3 + 1, by omega, by go_num, by rw [E.out], anyUpto_keep N3.out P.out⟩, _, rfl⟩
                          case measure => simp [intOf]; omega
                · obtain rfl : k3 = k2 := by omega
                  clear hlt
                  go_wp2_with (fail)
                  go_loopw [13, 15] (fun pr i w' => (∃ k4 : Nat, k4 ≤ k3 ∧ i = .int .i64 k4 ∧ pr = .int .i64 (prevAt (noneF of lf) k4) ∧ anyUpto (p4 of lf) k4 = false) ∧ ∃ q, w' = wr.drewN q) (fun _ i _ => k3 - (intOf i).toNat)
                  case atStart => exact ⟨⟨0, Nat.zero_le _, rfl, rfl, rfl⟩, _, rfl⟩
                  case round =>
                    obtain ⟨⟨k4, hk4, rfl, rfl, hn⟩, q, rfl⟩ := hrel
                    have N4 : Hid (anyUpto (p4 of lf) k4 = false) := hn
                    clear hn
                    by_cases hlt : k4 < k3
                    · have hkn : (k4 : Int) < (k3 : Int) := by omega
                      obtain ⟨hc0, hc1⟩ := HL.out k4 hlt
                      obtain ⟨b0, b1⟩ := Hof.out k4
                      obtain ⟨b2, b3⟩ := Hlf.out k4
                      by_cases h0 : of k4 = 0
                      · have nn : noneF of lf k4 = true := by simp [noneF, h0]
                        have P : Hid (p4 of lf k4 = false) := by show _ = _; simp [p4, nn]
                        have E : Hid (prevAt (noneF of lf) (k4 + 1) = prevAt (noneF of lf) k4) := prevAt_skip nn
                        clear nn
                        rw [h0] at hc0
                        go_wp2
                        go_roundw
                        case rel => exact ⟨⟨k4 + 1, by omega, by go_num, by rw [E.out], anyUpto_keep N4.out P.out⟩, _, rfl⟩
                        case measure => simp [intOf]; omega
                      · have h0' : (of k4 == 0) = false := by simp [h0]
                        by_cases h1 : lf k4 = 0
                        · have nn : noneF of lf k4 = true := by simp [noneF, h1]
                          have P : Hid (p4 of lf k4 = false) := by show _ = _; simp [p4, nn]
                          have E : Hid (prevAt (noneF of lf) (k4 + 1) = prevAt (noneF of lf) k4) := prevAt_skip nn
                          clear nn
                          rw [h1] at hc1
                          go_wp2
                          go_roundw
                          case rel => exact ⟨⟨k4 + 1, by omega, by go_num, by rw [E.out], anyUpto_keep N4.out P.out⟩, _, rfl⟩
                          case measure => simp [intOf]; omega
                        · have h1' : (lf k4 == 0) = false := by simp [h1]
                          have nn : noneF of lf k4 = false := by simp [noneF, h0, h1]
                          have E : Hid (prevAt (noneF of lf) (k4 + 1) = (k4 : Int)) := prevAt_take nn
                          rcases prevAt_cases (noneF of lf) k4 with hp | ⟨j, hj, hp⟩
                          · have P : Hid (p4 of lf k4 = false) := by show _ = _; simp [p4, hp]
                            rw [hp]
                            clear nn hp
                            go_wp2
                            go_quiet (fail)
                            go_wp2
                            go_roundw
                            case rel => exact ⟨⟨k4 + 1, by omega, by go_num, by rw [E.out], anyUpto_keep N4.out P.out⟩, _, rfl⟩
                            case measure => simp [intOf]; omega
                          · obtain ⟨hd0, hd1⟩ := HL.out j (by omega)
                            have hjn : (j : Int) < (k3 : Int) := by omega
                            obtain ⟨d0, d1⟩ := Hof.out j
                            obtain ⟨d2, d3⟩ := Hlf.out j
                            by_cases hx : of k4 < of j + lf j
                            · have P : Hid (p4 of lf k4 = true) := by show _ = _; simp [p4, nn, hp, hx]
                              rw [hp]
                              clear nn hp
                              go_wp2
                              go_quiet (fail)
                              go_wp2
                              go_ret
                              exact ⟨by rw [rule4 N1.out N2.out N3.out hlt P.out]; rfl, belowN (belowN HB.out _) _⟩
                            · have P : Hid (p4 of lf k4 = false) := by show _ = _; simp [p4, hp, hx]
                              rw [hp]
                              clear nn hp
                              go_wp2
                              go_quiet (fail)
                              go_wp2
                              go_roundw
                              case rel => exact ⟨⟨k4 + 1, by omega, by go_num, by rw [E.out], anyUpto_keep N4.out P.out⟩, _, rfl⟩
                              case measure => simp [intOf]; omega
                    · obtain rfl : k4 = k3 := by omega
                      clear hlt
                      go_wp2
                      go_ret
                      exact ⟨by rw [rule0 N1.out N2.out N3.out N4.out]; rfl, belowN HB.out _⟩
end Go.Proofs.YbulkblqFmt
