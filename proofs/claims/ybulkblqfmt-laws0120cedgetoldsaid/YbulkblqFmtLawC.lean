import Derived.Test.YbulkblqFmtCheck2
import Derived.Deep.OwnRows
import Derived.Laws.MakeOwn
namespace Go.Proofs.YbulkblqFmt
open Go.RowKit Go.Extern.Stop Go.Stop Go.Extern
open Go.WideShapes (add_plain)

/-- What the walk is told of a slice of integers that came in (the shells' own words). -/
def CRow (k : IntKind) (w : World) (a : Option Addr) (len cap : Nat) (zs : List Int) : Prop :=
  (a = none ∧ len = 0 ∧ cap = 0 ∧ zs = []) ∨
  ∃ x, a = some x ∧ len ≤ cap ∧ cap ≤ maxLen ∧ zs.length = cap ∧ (∀ i, i < zs.length → w.cell? (x.add i) = some (.int k (zs.getD i 0))) ∧ ∀ n ∈ zs, (Lit.int k n).wf = true

theorem CRow.rowv {w : World} {a : Option Addr} {n c : Nat} {zs : List Int} (h : CRow .u8 w a n c zs) : RowV w a n c (u8s (zs.take n)) ∧ (zs.take n).length = n := by
  rcases h with ⟨rfl, rfl, rfl, rfl⟩ | ⟨x, rfl, hl, hm, hz, hc, hw⟩
  · exact ⟨⟨.inl ⟨rfl, rfl, rfl, rfl⟩, u8s_one _⟩, rfl⟩
  · have e : (zs.take n).length = n := by rw [List.length_take]; omega
    refine ⟨⟨.inr ⟨x, rfl, by rw [u8s_length, e], fun j u hu => ?_⟩, u8s_one _⟩, e⟩
    have hj : j < n := by have := (List.getElem?_eq_some_iff.1 hu).1; rw [u8s_length, e] at this; exact this
    rw [u8s_get _ _ (by omega)] at hu
    have e2 : (zs.take n).getD j 0 = zs.getD j 0 := by simp [List.getD, List.getElem?_take_of_lt hj]
    rw [e2] at hu
    rw [hc j (by omega)]
    exact hu

set_option maxHeartbeats 400000 in
theorem short_walk (F : Interp) (a1 : Option Addr) (n1 c1 : Nat) (z1 : List Int) (a2 : Option Addr) (n2 c2 : Nat) (z2 : List Int) (pre : Bool) (w : World) (hF : F.answers w.tape) (h1 : CRow .u8 w a1 n1 c1 z1) (h2 : CRow .u8 w a2 n2 c2 z2) :
    Calls Ybaf.prog 7 #[.slice a1 n1 c1, .slice a2 n2 c2, .bool pre] w fun e w' => e = .returned (.bool true) ∧ Below w.heap.size w w' := by
  by_cases hl1 : 1024 < n1
  · have hg : (1024 : Int) < (n1 : Int) := by omega
    clear h1 h2
    go_enter Ybaf.func7, Ybaf.ntmps7
    go_wp2
    go_ret
    exact ⟨rfl, Below.refl _ _⟩
  by_cases hl2 : 1024 < n2
  · have hg : ¬ (1024 : Int) < (n1 : Int) := by omega
    have hg2 : (1024 : Int) < (n2 : Int) := by omega
    clear h1 h2
    go_enter Ybaf.func7, Ybaf.ntmps7
    go_wp2
    go_ret
    exact ⟨rfl, Below.refl _ _⟩
  have hg : ¬ (1024 : Int) < (n1 : Int) := by omega
  have hg2 : ¬ (1024 : Int) < (n2 : Int) := by omega
  have H : Hid (Calls Ybaf.prog 13 #[.slice a1 n1 c1, .slice a2 n2 c2, .bool pre] w fun e w' => e = .returned (.bool true) ∧ Below w.heap.size w w') :=
    check_any F a1 n1 c1 (z1.take n1) a2 n2 c2 (z2.take n2) pre w hF h1.rowv.1 h2.rowv.1 h1.rowv.2 h2.rowv.2 (by omega) (by omega)
  clear h1 h2
  go_enter Ybaf.func7, Ybaf.ntmps7
  go_wp2_with (fail)
  refine H.out.mono ?_
  rintro e w1 ⟨rfl, hb⟩
  go_wp2
  go_ret
  exact ⟨rfl, hb⟩

def rowA (l : List Int) : Array Value := (u8s l).toArray
theorem rowA_set (l : List Int) (k : Nat) (v : Int) : (rowA l).setIfInBounds k (.int .u8 v) = rowA (l.set k v) := by simp [rowA, u8s]
theorem rowA_get (l : List Int) (k : Nat) (h : k < l.length) : (rowA l)[k]? = some (.int .u8 (l.getD k 0)) := by simpa [rowA] using u8s_get l k h
theorem made_rowA (n : Nat) : madeCells #[Value.int .u8 0] n = rowA (List.replicate n 0) := by
  apply Array.ext_getElem?
  intro i
  by_cases h : i < n
  · rw [rowA_get _ _ (by simpa using h)]
    simp [madeCells, h, Nat.mod_one]
  · rw [Array.getElem?_eq_none (by rw [size_madeCells]; omega), Array.getElem?_eq_none (by simp [rowA, u8s]; omega)]

theorem make_bytesC (n : Nat) (hn : n ≤ 4096) (w : World) : (Instr.makeSlice 22 (.int .i64 (n : Int)) (.int .i64 (n : Int))).run Ybaf.prog w = .ok (.slice (some ⟨w.heap.size, 0, none⟩) n n) (w.alloc (.cells (rowA (List.replicate n 0)) 5)) := by
  rw [← made_rowA]
  exact run_make_row' 22 5 (.int .u8 0) 1 Ybaf.underlying22 (by kernel_rfl) rfl .i64 .i64 n (by omega) (by omega) w

set_option maxHeartbeats 1000000 in
theorem edge_walk (F : Interp) (a1 : Option Addr) (n1 c1 : Nat) (z1 : List Int) (n fill : Int) (pre : Bool) (w : World) (hF : F.answers w.tape) (h1 : CRow .u8 w a1 n1 c1 z1) (hn0 : 0 ≤ n) (hn1 : n ≤ 255) :
    Calls Ybaf.prog 8 #[.slice a1 n1 c1, .int .u8 n, .int .u8 fill, .bool pre] w fun e w' => e = .returned (.bool true) ∧ Below w.heap.size w w' := by
  by_cases hl1 : 1024 < n1
  · have hg : (1024 : Int) < (n1 : Int) := by omega
    clear h1
    go_enter Ybaf.func8, Ybaf.ntmps8
    go_wp2
    go_ret
    exact ⟨rfl, Below.refl _ _⟩
  have hg : ¬ (1024 : Int) < (n1 : Int) := by omega
  obtain ⟨L, hL⟩ : ∃ L : Nat, 250 + n % 12 = (L : Int) := ⟨(250 + n % 12).toNat, by omega⟩
  have hL1 : L ≤ 261 := by omega
  have hmk := make_bytesC L (by omega)
  have H1 : Hid (CRow .u8 w a1 n1 c1 z1) := h1
  clear h1
  go_enter Ybaf.func8, Ybaf.ntmps8
  go_wp2
  clear hmk
  go_loopw [11] (fun i w' => ∃ (k : Nat) (ls : List Int), k ≤ L ∧ i = .int .i64 k ∧ ls.length = L ∧ w' = w.alloc (.cells (rowA ls) 5)) (fun i _ => L - (intOf i).toNat)
  case atStart => exact ⟨0, List.replicate L 0, Nat.zero_le _, rfl, by simp, rfl⟩
  case round =>
    obtain ⟨k, ls, hk, rfl, hls, rfl⟩ := hrel
    have Hls : Hid (ls.length = L) := hls
    clear hls
    by_cases hlt : k < L
    · have hc : (rowA ls)[k]? = some (.int .u8 (ls.getD k 0)) := rowA_get ls k (by rw [Hls.out]; exact hlt)
      have hkn : (k : Int) < (L : Int) := by omega
      have hset := fun v => rowA_set ls k v
      go_wp2
      go_roundw
      case rel => exact ⟨k + 1, _, by omega, by go_num, by rw [List.length_set]; exact Hls.out, rfl⟩
      case measure => simp [intOf]; omega
    · go_wp2_with (fail)
      have hrv := H1.out.rowv
      refine (check_any F a1 n1 c1 (z1.take n1) _ L L ls pre _ ?_ ?_ ?_ hrv.2 Hls.out (by omega) (by omega)).mono ?_
      · exact hF
      · exact rowv_below hrv.1 ((Below.refl _ _).alloc (Nat.le_refl _) _)
      · refine ⟨.inr ⟨_, rfl, by rw [u8s_length]; exact Hls.out, fun j u hu => ?_⟩, u8s_one _⟩
        rw [add_plain, Nat.zero_add]
        simpa [rowA] using hu
      rintro e w1 ⟨rfl, hb⟩
      have HB : Hid (Below w.heap.size w w1) := ((Below.refl _ _).alloc (Nat.le_refl _) _).trans (hb.mono (by simp))
      clear hb
      go_wp2
      go_ret
      exact ⟨rfl, HB.out⟩
end Go.Proofs.YbulkblqFmt
