import Derived.Test.YbulkblqFmtFacts
import Derived.WalkKit
import Derived.WalkSpells
import Derived.WalkLawsBesides
import Derived.BigQuiet
import Derived.Deep.QuietTactic
import Derived.LoopN
import Derived.Laws.BitsAllLaws
import Derived.Deep.RegionHeld3
import Derived.Below
namespace Go.Proofs.YbulkblqFmt
open Go.RowKit

/-- The bytes of a row of cells, by their places in the block. -/
def ByteRow (w : World) (b lo hi : Nat) (fz : Nat → Int) : Prop := b < w.heap.size ∧ ∀ j, lo ≤ j → j < hi → w.cell? ⟨b, j, none⟩ = some (.int .u8 (fz j))

theorem ByteRow.below {w w' : World} {b lo hi : Nat} {fz : Nat → Int} (h : ByteRow w b lo hi fz) (hB : Below w.heap.size w w') : ByteRow w' b lo hi fz :=
  ⟨Nat.lt_of_lt_of_le h.1 hB.size, fun j h1 h2 => (hB.cell (p := ⟨b, j, none⟩) h.1).trans (h.2 j h1 h2)⟩
theorem ByteRow.alloc {w : World} {b lo hi : Nat} {fz : Nat → Int} (h : ByteRow w b lo hi fz) (x : Obj) : ByteRow (w.alloc x) b lo hi fz := h.below ((Below.refl _ _).alloc (Nat.le_refl _) _)
theorem ByteRow.drew {w : World} {b lo hi : Nat} {fz : Nat → Int} (h : ByteRow w b lo hi fz) : ByteRow w.drew b lo hi fz := h
theorem ByteRow.drewN {w : World} {b lo hi : Nat} {fz : Nat → Int} (h : ByteRow w b lo hi fz) (q : Nat) : ByteRow (w.drewN q) b lo hi fz := h
theorem ByteRow.setCell {w : World} {b lo hi : Nat} {fz : Nat → Int} (h : ByteRow w b lo hi fz) (p : Addr) (v : Value) (hp : p.block ≠ b) : ByteRow (w.setCell p v) b lo hi fz :=
  ⟨by simpa [World.setCell] using h.1, fun j h1 h2 => by rw [World.cell?_setCell_far _ _ _ _ hp]; exact h.2 j h1 h2⟩

def word (fz : Nat → Int) (at_ : Nat) : Int := fz at_ * 256 + fz (at_ + 1)

theorem or_mul8 (a b : Nat) (h : a < 256) : a ||| (b * 256) = b * 256 + a := by
  rw [Nat.or_comm, show b * 256 = b <<< 8 by rw [Nat.shiftLeft_eq], Nat.shiftLeft_add_eq_or_of_lt (by omega)]

theorem or16 (z y : Int) (hz : 0 ≤ z ∧ z ≤ 255) (hy : 0 ≤ y ∧ y ≤ 255) : bits BinOp.or IntKind.u16 y (z * 256) = z * 256 + y := by
  obtain ⟨n0, rfl⟩ := Int.eq_ofNat_of_zero_le hz.1
  obtain ⟨n1, rfl⟩ := Int.eq_ofNat_of_zero_le hy.1
  have e : ((n0 : Int) * 256) = ((n0 * 256 : Nat) : Int) := by omega
  rw [e, u16_or_nat n1 (n0 * 256) (by omega) (by omega), or_mul8 n1 n0 (by omega)]
  omega

theorem wrap_both (t v : Int) (h : IntKind.u64.wrap t = v) (hv : v ≤ 65535) : IntKind.i64.wrap t = v := by
  simp only [IntKind.wrap, IntKind.bits, IntKind.signed] at h ⊢
  simp at h ⊢
  omega
theorem or64 (z y : Int) (hz : 0 ≤ z ∧ z ≤ 255) (hy : 0 ≤ y ∧ y ≤ 255) : bits BinOp.or IntKind.i64 (z * 256) y = z * 256 + y := by
  obtain ⟨n0, rfl⟩ := Int.eq_ofNat_of_zero_le hz.1
  obtain ⟨n1, rfl⟩ := Int.eq_ofNat_of_zero_le hy.1
  have e : ((n0 : Int) * 256) = ((n0 * 256 : Nat) : Int) := by omega
  have hx : (n0 * 256) ||| n1 = n0 * 256 + n1 := by rw [Nat.or_comm, or_mul8 n1 n0 (by omega)]
  have h := u64_or_nat (n0 * 256) n1 (by omega) (by omega)
  rw [hx] at h
  rw [e]
  have h2 : bits BinOp.or IntKind.i64 ((n0 * 256 : Nat) : Int) (n1 : Int) = _ := wrap_both _ _ h (by omega)
  rw [h2]
  omega

set_option maxRecDepth 100000 in
set_option maxHeartbeats 1000000 in
/-- 'zzs0120aword'. -/
theorem word_walk (b o nd cap at_ : Nat) (z y : Int) (w : World) (h0 : w.cell? ⟨b, o + at_, none⟩ = some (.int .u8 z)) (h1 : w.cell? ⟨b, o + (at_ + 1), none⟩ = some (.int .u8 y)) (hz : 0 ≤ z ∧ z ≤ 255) (hy : 0 ≤ y ∧ y ≤ 255) (hat : at_ + 1 < nd) (hnd : nd ≤ 4096) :
    Calls Ybaf.prog 18 #[.slice (some ⟨b, o, none⟩) nd cap, .int .i64 at_] w fun e w' => e = .returned (.int .i64 (z * 256 + y)) ∧ ∃ q, w' = w.drewN q := by
  have i1 : (at_ : Int) < (nd : Int) := by omega
  have i2 : (at_ : Int) + 1 < (nd : Int) := by omega
  have hor := or64 z y hz hy
  obtain ⟨z0, z1⟩ := hz
  obtain ⟨y0, y1⟩ := hy
  go_enter Ybaf.func18, Ybaf.ntmps18
  go_wp2_with (fail)
  go_quiet (fail)
  go_wp2
  go_ret
  exact ⟨rfl, _, rfl⟩

set_option maxRecDepth 100000 in
set_option maxHeartbeats 1000000 in
/-- 'binary.BigEndian.Uint16'. -/
theorem u16_walk (b o nd cap : Nat) (z y : Int) (w : World) (h0 : w.cell? ⟨b, o, none⟩ = some (.int .u8 z)) (h1 : w.cell? ⟨b, o + 1, none⟩ = some (.int .u8 y)) (hz : 0 ≤ z ∧ z ≤ 255) (hy : 0 ≤ y ∧ y ≤ 255) (hat : 1 < nd) (hb : b < w.heap.size) :
    Calls Ybaf.prog 21 #[.agg #[], .slice (some ⟨b, o, none⟩) nd cap] w fun e w' => e = .returned (.int .u16 (z * 256 + y)) ∧ ∃ q, w' = (w.alloc (.cells #[] 69)).drewN q := by
  have i1 : (1 : Int) < (nd : Int) := by omega
  have i0 : (0 : Int) < (nd : Int) := by omega
  have hor := or16 z y hz hy
  obtain ⟨z0, z1⟩ := hz
  obtain ⟨y0, y1⟩ := hy
  go_enter Ybaf.func21, Ybaf.ntmps21
  go_wp2_with (fail)
  go_quiet (fail)
  go_wp2
  go_ret
  exact ⟨rfl, _, rfl⟩

set_option maxRecDepth 100000 in
set_option maxHeartbeats 1000000 in
/-- 'end'. -/
theorem end_walk (x y : Int) (w : World) (hx : 0 ≤ x ∧ x ≤ 65535) (hy : 0 ≤ y ∧ y ≤ 65535) :
    Calls Ybaf.prog 16 #[.agg #[.int .i64 x, .int .i64 y]] w fun e w' => e = .returned (.int .i64 (x + y)) ∧ w' = w.alloc (.cells #[.int .i64 x, .int .i64 y] 56) := by
  obtain ⟨x0, x1⟩ := hx
  obtain ⟨y0, y1⟩ := hy
  go_enter Ybaf.func16, Ybaf.ntmps16
  go_wp2
  go_ret
  exact ⟨rfl, rfl⟩

set_option maxRecDepth 100000 in
set_option maxHeartbeats 1000000 in
/-- 'none'. -/
theorem none_walk (x y : Int) (w : World) :
    Calls Ybaf.prog 23 #[.agg #[.int .i64 x, .int .i64 y]] w fun e w' => e = .returned (.bool (x == 0 || y == 0)) ∧ w' = w.alloc (.cells #[.int .i64 x, .int .i64 y] 56) := by
  by_cases h : x = 0
  · subst h
    go_enter Ybaf.func23, Ybaf.ntmps23
    go_wp2
    go_ret
    exact ⟨rfl, rfl⟩
  · have h' : (x == 0) = false := by simp [h]
    go_enter Ybaf.func23, Ybaf.ntmps23
    go_wp2
    go_ret
    exact ⟨by simp [h'], rfl⟩

theorem u16_row (b off nd cap lo hi : Nat) (fz : Nat → Int) (w : World) (h : ByteRow w b lo hi fz) (h1 : lo ≤ off) (h2 : off + 1 < hi) (hz : ∀ j, 0 ≤ fz j ∧ fz j ≤ 255) (hat : 1 < nd) :
    Calls Ybaf.prog 21 #[.agg #[], .slice (some ⟨b, off, none⟩) nd cap] w fun e w' => e = .returned (.int .u16 (word fz off)) ∧ ∃ q, w' = (w.alloc (.cells #[] 69)).drewN q :=
  u16_walk b off nd cap (fz off) (fz (off + 1)) w (h.2 off h1 (by omega)) (h.2 (off + 1) (by omega) h2) (hz _) (hz _) hat h.1

theorem word_bounds (fz : Nat → Int) (hz : ∀ j, 0 ≤ fz j ∧ fz j ≤ 255) (x : Nat) : 0 ≤ word fz x ∧ word fz x ≤ 65535 := by
  have := hz x
  have := hz (x + 1)
  unfold word
  omega

end Go.Proofs.YbulkblqFmt
