import Derived.Test.YbulkblqFmtFacts
import Derived.WalkKit
import Derived.WalkSpells
import Derived.WalkLawsBesides
import Derived.BigQuiet
import Derived.Deep.QuietTactic
import Derived.LoopN
namespace Go.Proofs.YbulkblqFmt
open Go.RowKit Go.Extern.Stop Go.Stop Go.Extern

def ruleLow : ByteArray := ⟨#[111, 117, 116, 45, 111, 102, 45, 114, 97, 110, 103, 101]⟩
def ruleLong : ByteArray := ⟨#[116, 111, 111, 45, 108, 111, 110, 103]⟩

set_option maxHeartbeats 400000 in
theorem count_low (F : Interp) (wr d : Nat) (n : Int) (nm : ByteArray) (w : World) (hF : F.answers w.tape) (hn : n < 1) (hd : d < w.heap.size) (hw1 : w.cell? ⟨wr, 1, none⟩ = some (.pointer (some ⟨d, 0, none⟩))) (hd0 : w.cell? ⟨d, 0, none⟩ = some (.pointer none)) (hf : w.frozen? ⟨d, 0, none⟩ = false) :
    Calls Ybaf.prog 11 #[.pointer (some ⟨wr, 0, none⟩), .int .i64 n, .string nm] w fun e w' => e = .returned (.tuple #[]) ∧
      ∃ cs txt, w' = (((w.setCell ⟨d, 0, none⟩ (.pointer (some ⟨w.heap.size + 1, 0, none⟩))).alloc (.cells cs 20)).alloc (.cells #[.string ruleLow, .string txt] 50)).drew := by
  have hF' := answers_open hF
  go_enter Ybaf.func11, Ybaf.ntmps11
  go_wp2
  apply rows_value Ybaf.nextTurns
  case hr =>
    go_simp
    exact ⟨rfl, rfl⟩
  case h =>
    go_wp2
    go_end0
    go_wp2
    go_end0
    exact ⟨rfl, _, _, rfl⟩

set_option maxHeartbeats 400000 in
theorem count_high (F : Interp) (wr d : Nat) (n : Int) (nm : ByteArray) (w : World) (hF : F.answers w.tape) (hn : 13 < n) (hd : d < w.heap.size) (hw1 : w.cell? ⟨wr, 1, none⟩ = some (.pointer (some ⟨d, 0, none⟩))) (hd0 : w.cell? ⟨d, 0, none⟩ = some (.pointer none)) (hf : w.frozen? ⟨d, 0, none⟩ = false) :
    Calls Ybaf.prog 11 #[.pointer (some ⟨wr, 0, none⟩), .int .i64 n, .string nm] w fun e w' => e = .returned (.tuple #[]) ∧
      ∃ cs txt, w' = (((w.setCell ⟨d, 0, none⟩ (.pointer (some ⟨w.heap.size + 1, 0, none⟩))).alloc (.cells cs 20)).alloc (.cells #[.string ruleLong, .string txt] 50)).drew := by
  have hn' : ¬ n < 1 := by omega
  have hF' := answers_open hF
  go_enter Ybaf.func11, Ybaf.ntmps11
  go_wp2
  apply rows_value Ybaf.nextTurns
  case hr =>
    go_simp
    exact ⟨rfl, rfl⟩
  case h =>
    go_wp2
    go_end0
    go_wp2
    go_end0
    exact ⟨rfl, _, _, rfl⟩

set_option maxHeartbeats 400000 in
theorem count_mid (wr : Nat) (n : Int) (nm : ByteArray) (w : World) (h1 : ¬ n < 1) (h2 : ¬ 13 < n) :
    Calls Ybaf.prog 11 #[.pointer (some ⟨wr, 0, none⟩), .int .i64 n, .string nm] w fun e w' => e = .returned (.tuple #[]) ∧ w' = w := by
  go_enter Ybaf.func11, Ybaf.ntmps11
  go_wp2
  go_end0
  exact ⟨rfl, rfl⟩

set_option maxHeartbeats 400000 in
theorem bsame_0 (a b : Option Addr) (c c' : Nat) (w : World) :
    Calls Ybaf.prog 12 #[.slice a 0 c, .slice b 0 c'] w fun e w' => e = .returned (.bool true) ∧ ∃ k, w' = w.drewN k := by
  go_enter Ybaf.func12, Ybaf.ntmps12
  go_wp2
  refine wp_loop_rounds 1 ?_
  rw [rounds_succ]
  go_wp2
  go_ret
  exact ⟨rfl, 0, rfl⟩

set_option maxHeartbeats 400000 in
theorem bsame_pos (b1 o1 b2 o2 n c c' : Nat) (zs : List Int) (hn : n ≤ 1024) (w : World) (ha : ∀ i, i < n → w.cell? ⟨b1, o1 + i, none⟩ = some (.int .u8 (zs.getD i 0))) (hb : ∀ i, i < n → w.cell? ⟨b2, o2 + i, none⟩ = some (.int .u8 (zs.getD i 0))) :
    Calls Ybaf.prog 12 #[.slice (some ⟨b1, o1, none⟩) n c, .slice (some ⟨b2, o2, none⟩) n c'] w fun e w' => e = .returned (.bool true) ∧ ∃ k, w' = w.drewN k := by
  have Ha : Hid (∀ i, i < n → w.cell? ⟨b1, o1 + i, none⟩ = some (.int .u8 (zs.getD i 0))) := ha
  have Hb : Hid (∀ i, i < n → w.cell? ⟨b2, o2 + i, none⟩ = some (.int .u8 (zs.getD i 0))) := hb
  clear ha hb
  go_enter Ybaf.func12, Ybaf.ntmps12
  go_wp2
  go_loopw [5] (fun i w' => (∃ k : Nat, k ≤ n ∧ i = .int .i64 k) ∧ ∃ q, w' = w.drewN q) (fun i _ => n - (intOf i).toNat)
  case atStart => exact ⟨⟨0, Nat.zero_le _, rfl⟩, 0, rfl⟩
  case round =>
    obtain ⟨⟨k, hk, rfl⟩, q, rfl⟩ := hrel
    by_cases hlt : k < n
    · have h1 := Ha.out k hlt
      have h2 := Hb.out k hlt
      have hkn : (k : Int) < (n : Int) := by omega
      go_wp2
      go_quiet (fail)
      go_wp2
      go_roundw
      case rel => exact ⟨⟨k + 1, by omega, by go_num⟩, _, rfl⟩
      case measure => simp [intOf]; omega
    · go_wp2
      go_ret
      exact ⟨rfl, q, rfl⟩
end Go.Proofs.YbulkblqFmt
