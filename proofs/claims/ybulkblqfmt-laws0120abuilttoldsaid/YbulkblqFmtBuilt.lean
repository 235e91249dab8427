import Derived.Test.YbulkblqFmtBu
import Derived.Test.YbulkblqFmtChk
namespace Go.Proofs.YbulkblqFmt
open Go.RowKit Go.Extern.Stop Go.Stop Go.Extern
open Go.WideShapes (add_plain)

set_option maxRecDepth 100000 in
set_option maxHeartbeats 1000000 in
theorem built_walk (F : Interp) (ap : Option Addr) (k cp : Nat) (x : Int) (w : World) (hF : F.answers w.tape) (hk : k ≤ 256) (hx : 0 ≤ x ∧ x ≤ 255) (hp : k = 0 ∨ ∃ bp op, ap = some ⟨bp, op, none⟩ ∧ bp < w.heap.size ∧ PairRow w bp op k) :
    Calls Ybaf.prog 4 #[.slice ap k cp, .int .u8 x] w fun e w' => e = .returned (.bool true) ∧ Below w.heap.size w w' := by
  obtain ⟨N, hN⟩ : ∃ N : Nat, 4 * (k : Int) + x % 96 = (N : Int) := ⟨(4 * (k : Int) + x % 96).toNat, by omega⟩
  have hN1 : N ≤ 1119 := by omega
  have hN2 : 4 * k ≤ N := by omega
  have g1 : ¬ (256 : Int) < (k : Int) := by omega
  have hmk1 := make_bytes N (by omega)
  have hmk2 := run_make_row' (P := Ybaf.prog) 24 3 (.int .i64 0) 8 Ybaf.underlying24 Ybaf.info3 rfl .i64 .i64 k (by omega) (by omega)
  have hmk3 := make_ptrs k hk
  have HP : Hid (k = 0 ∨ ∃ bp op, ap = some ⟨bp, op, none⟩ ∧ bp < w.heap.size ∧ PairRow w bp op k) := hp
  clear hp
  go_enter Ybaf.func4, Ybaf.ntmps4
  go_wp2_with (fail)
  have HB0 : Hid (Below w.heap.size w (((w.alloc (.cells (madeCells #[.int .u8 0] N) 5)).alloc (.cells (madeCells #[.int .i64 0] k) 3)).alloc (.cells (madeCells #[.string ⟨#[]⟩, .int .i64 0] (k * 2)) 28))) := belowA (belowA (belowA (Below.refl _ _) _) _) _
  have HD0 : Hid (BR (((w.alloc (.cells (madeCells #[.int .u8 0] N) 5)).alloc (.cells (madeCells #[.int .i64 0] k) 3)).alloc (.cells (madeCells #[.string ⟨#[]⟩, .int .i64 0] (k * 2)) 28)) w.heap.size N) := ((made_br w N).alloc _).alloc _
  have HA0 : Hid (Arr (((w.alloc (.cells (madeCells #[.int .u8 0] N) 5)).alloc (.cells (madeCells #[.int .i64 0] k) 3)).alloc (.cells (madeCells #[.string ⟨#[]⟩, .int .i64 0] (k * 2)) 28)) (w.heap.size + 1) k (fun i => 4 * (i : Int)) 0) := by
    have := (made_arr (w.alloc (.cells (madeCells #[.int .u8 0] N) 5)) k (fun i => 4 * (i : Int))).alloc (.cells (madeCells #[.string ⟨#[]⟩, .int .i64 0] (k * 2)) 28)
    rw [World.size_alloc] at this
    exact this
  have HQ0 : Hid (PA (((w.alloc (.cells (madeCells #[.int .u8 0] N) 5)).alloc (.cells (madeCells #[.int .i64 0] k) 3)).alloc (.cells (madeCells #[.string ⟨#[]⟩, .int .i64 0] (k * 2)) 28)) (w.heap.size + 1 + 1) k (fun i => 4 * i) 0) := by
    have := made_pa ((w.alloc (.cells (madeCells #[.int .u8 0] N) 5)).alloc (.cells (madeCells #[.int .i64 0] k) 3)) k (fun i => 4 * i)
    rw [World.size_alloc, World.size_alloc] at this
    exact this
  clear hmk1 hmk2 hmk3
  go_loopw [11] (fun i w' => ∃ kk : Nat, kk ≤ k ∧ i = .int .i64 kk ∧ BR w' w.heap.size N ∧ Arr w' (w.heap.size + 1) k (fun i => 4 * (i : Int)) kk ∧ PA w' (w.heap.size + 1 + 1) k (fun i => 4 * i) kk ∧ Below w.heap.size w w') (fun i _ => k - (intOf i).toNat)
  case atStart => exact ⟨0, Nat.zero_le _, rfl, HD0.out, HA0.out, HQ0.out, HB0.out⟩
  case round =>
    clear HD0 HA0 HQ0 HB0
    obtain ⟨kk, hkk, rfl, hD, hA, hQ, hB⟩ := hrel
    by_cases hlt : kk < k
    · have hkn : (kk : Int) < (k : Int) := by omega
      obtain ⟨bp, op, rfl, hbp, hpr⟩ := HP.out.resolve_left (by omega)
      obtain ⟨x0, y0, ⟨x1, x2⟩, ⟨y1, y2⟩, hcx, hcy⟩ := hpr kk hlt
      have hcx := cell_later hB hcx
      have hcy := cell_later hB hcy
      obtain ⟨d0, _, e0⟩ := hD.cell (4 * kk) (by omega)
      obtain ⟨d1, _, e1⟩ := hD.cell (4 * kk + 1) (by omega)
      obtain ⟨d2, _, e2⟩ := hD.cell (4 * kk + 2) (by omega)
      obtain ⟨d3, _, e3⟩ := hD.cell (4 * kk + 3) (by omega)
      have ea := hA.cell kk hlt
      rw [if_neg (by omega)] at ea
      obtain ⟨⟨p0, ep0⟩, p1, ep1⟩ := hQ.any kk hlt
      have fD0 := hD.fz (4 * kk)
      have fD1 := hD.fz (4 * kk + 1)
      have fD2 := hD.fz (4 * kk + 2)
      have fD3 := hD.fz (4 * kk + 3)
      have fA := hA.fz kk
      have fQ0 := hQ.fz (kk * 2)
      have fQ1 := hQ.fz (kk * 2 + 1)
      have HD : Hid (BR wr w.heap.size N) := hD
      have HA : Hid (Arr wr (w.heap.size + 1) k (fun i => 4 * (i : Int)) kk) := hA
      have HQ : Hid (PA wr (w.heap.size + 1 + 1) k (fun i => 4 * i) kk) := hQ
      have HB : Hid (Below w.heap.size w wr) := hB
      clear hD hA hQ hB hpr
      have n1 : ¬ w.heap.size = bp := by omega
      have n2 : ¬ w.heap.size + 1 = bp := by omega
      have n3 : ¬ w.heap.size + 1 + 1 = bp := by omega
      have hkz : (kk : Int) ≤ 256 := by omega
      have hkN : 4 * (kk : Int) + 3 < (N : Int) := by omega
      by_cases h0 : x0 = 0
      · subst h0
        go_wp2_with (fail)
        go_roundw
        case rel =>
          refine ⟨kk + 1, by omega, by go_num, ?_⟩
          refine built_next HD.out HA.out HQ.out HB.out hlt hN2 _ _ _ _ ?_ ?_ ?_ ?_ rfl <;> omega
        case measure => simp [intOf]; omega
      · have h0' : (x0 != 0) = true := by simp [h0]
        by_cases h5 : 4 * (k : Int) + x0 % 80 - 8 < 1
        · go_wp2_with (fail)
          go_roundw
          case rel =>
            refine ⟨kk + 1, by omega, by go_num, ?_⟩
            refine built_next HD.out HA.out HQ.out HB.out hlt hN2 _ _ _ _ ?_ ?_ ?_ ?_ rfl <;> omega
          case measure => simp [intOf]; omega
        · have h5' : 1 ≤ 4 * (k : Int) + x0 % 80 - 8 := by omega
          go_wp2_with (fail)
          go_roundw
          case rel =>
            refine ⟨kk + 1, by omega, by go_num, ?_⟩
            refine built_next HD.out HA.out HQ.out HB.out hlt hN2 _ _ _ _ ?_ ?_ ?_ ?_ rfl <;> omega
          case measure => simp [intOf]; omega
    · obtain rfl : kk = k := by omega
      have hkn : ¬ (kk : Int) < (kk : Int) := by omega
      have HB : Hid (Below w.heap.size w wr) := hB
      obtain ⟨fz, hz, hrow⟩ := hD.row
      have Hz : Hid (∀ j, 0 ≤ fz j ∧ fz j ≤ 255) := hz
      have Hrow : Hid (ByteRow wr w.heap.size 0 (0 + N) fz) := hrow
      have HQ : Hid (PtrRow wr (w.heap.size + 1 + 1) kk (fun i => 4 * i)) := ⟨hQ.lt, fun i hi => hQ.cell i hi hi⟩
      have HA : Hid (AtRow wr (w.heap.size + 1) 0 kk (fun i => 4 * i)) := ⟨hA.lt, fun i hi => by
        have := hA.cell i hi
        rw [if_pos hi] at this
        rw [Nat.zero_add, this]
        simp⟩
      clear hD hA hQ hB hz hrow
      go_wp2_with (fail)
      refine (chk_walk F _ _ N N kk kk _ (fun i => 4 * i) fz (fun i => word fz (0 + 4 * i)) (fun i => word fz (0 + (4 * i + 2))) wr ?_ hk (by omega) Hz.out ?_ (fun i => word_bounds fz Hz.out _) (fun i => word_bounds fz Hz.out _)).mono ?_
      · rw [HB.out.tape]; exact hF
      · exact .inr ⟨_, 0, _, rfl, rfl, Nat.le_refl _, Hrow.out, HQ.out, fun i hi => ⟨by show 4 * i + 3 < N; omega, rfl, rfl⟩⟩
      rintro e w1 ⟨⟨txt, rfl⟩, hb⟩
      have HB1 : Hid (Below wr.heap.size wr w1) := hb
      clear hb
      go_wp2_with (fail)
      refine (model_walk _ _ N N kk kk _ (fun i => 4 * i) fz (fun i => word fz (0 + 4 * i)) (fun i => word fz (0 + (4 * i + 2))) w1 hk (by omega) Hz.out ?_ (fun i => word_bounds fz Hz.out _) (fun i => word_bounds fz Hz.out _)).mono ?_
      · exact .inr ⟨_, 0, _, 0, rfl, rfl, Hrow.out.below HB1.out, HA.out.below HB1.out, fun i hi => ⟨by show 4 * i + 3 < N; omega, rfl, rfl⟩⟩
      rintro e w2 ⟨rfl, hb⟩
      have HB2 : Hid (Below w.heap.size w w2) := (HB.out.trans (HB1.out.mono HB.out.size)).trans (hb.mono (Nat.le_trans HB.out.size HB1.out.size))
      clear hb
      go_wp2
      go_ret
      exact ⟨rfl, HB2.out⟩

set_option maxRecDepth 100000 in
set_option maxHeartbeats 1000000 in
theorem built_big (ap : Option Addr) (k cp : Nat) (x : Int) (w : World) (h : 256 < k) :
    Calls Ybaf.prog 4 #[.slice ap k cp, .int .u8 x] w fun e w' => e = .returned (.bool true) ∧ Below w.heap.size w w' := by
  have g1 : (256 : Int) < (k : Int) := by omega
  go_enter Ybaf.func4, Ybaf.ntmps4
  go_wp2
  go_ret
  exact ⟨rfl, Below.refl _ _⟩

/-- What the walk is told of the slice of pairs that came in. -/
def PairsIn (w : World) (a : Option Addr) (len cap : Nat) : Prop :=
  (a = none ∧ len = 0 ∧ cap = 0) ∨
  ∃ x, a = some x ∧ ∀ i, i < len → ∃ p q : Int, (0 ≤ p ∧ p ≤ 255) ∧ (0 ≤ q ∧ q ≤ 255) ∧ w.cell? (x.add (i * 2)) = some (.int .u8 p) ∧ w.cell? (x.add (i * 2 + 1)) = some (.int .u8 q)

theorem PairsIn.plain {w : World} {a : Option Addr} {n c : Nat} (h : PairsIn w a n c) (hn : 0 < n) : ∃ b o, a = some ⟨b, o, none⟩ ∧ b < w.heap.size ∧ PairRow w b o n := by
  rcases h with ⟨rfl, rfl, rfl⟩ | ⟨⟨b, o, s⟩, rfl, hc⟩
  · omega
  obtain ⟨p, q, _, _, h0, _⟩ := hc 0 hn
  have h0 : w.cell? ⟨b, o, s⟩ = some (.int .u8 p) := by simpa [Addr.add] using h0
  have hs : s = none := by
    unfold World.cell? at h0
    cases s with
    | none => rfl
    | some x => split at h0 <;> simp at h0
  subst hs
  have hb : b < w.heap.size := by
    unfold World.cell? at h0
    split at h0
    · rename_i he; exact (Array.getElem?_eq_some_iff.1 he).1
    · cases h0
  refine ⟨b, o, rfl, hb, fun i hi => ?_⟩
  obtain ⟨p, q, hp, hq, h1, h2⟩ := hc i hi
  rw [add_plain] at h1 h2
  exact ⟨p, q, hp, hq, h1, by rw [Nat.add_assoc]; exact h2⟩

/-- The law, whatever the input. -/
theorem built_any (F : Interp) (ap : Option Addr) (k cp : Nat) (x : Int) (w : World) (hF : F.answers w.tape) (hx : 0 ≤ x ∧ x ≤ 255) (hp : PairsIn w ap k cp) :
    Calls Ybaf.prog 4 #[.slice ap k cp, .int .u8 x] w fun e w' => e = .returned (.bool true) ∧ Below w.heap.size w w' := by
  by_cases h1 : 256 < k
  · exact built_big ap k cp x w h1
  by_cases h0 : k = 0
  · exact built_walk F ap k cp x w hF (by omega) hx (.inl h0)
  exact built_walk F ap k cp x w hF (by omega) hx (.inr (hp.plain (by omega)))
end Go.Proofs.YbulkblqFmt
