import Derived.Test.YbulkblqFmtCount
import Derived.Deep.OwnRows
import Derived.Laws.CopyOwn
import Derived.LaidEqlPtr
import Derived.WalkSmall
import Derived.WideShapes
namespace Go.Proofs.YbulkblqFmt
open Go.RowKit Go.Extern.Stop Go.Stop Go.Extern
open Go.WideShapes (add_plain)

/-- What the walk is told of a slice of integers that came in (the shells' own words). -/
def IsRow (k : IntKind) (w : World) (a : Option Addr) (len cap : Nat) (zs : List Int) : Prop :=
  (a = none ∧ len = 0 ∧ cap = 0 ∧ zs = []) ∨
  ∃ x, a = some x ∧ len ≤ cap ∧ cap ≤ maxLen ∧ zs.length = cap ∧ (∀ i, i < zs.length → w.cell? (x.add i) = some (.int k (zs.getD i 0))) ∧ ∀ n ∈ zs, (Lit.int k n).wf = true

def bytesV (l : List Int) : Array Value := (l.map (Value.int .u8)).toArray

theorem make_bytes (n : Nat) (hn : n ≤ 4096) (w : World) : (Instr.makeSlice 22 (.int .i64 (n : Int)) (.int .i64 (n : Int))).run Ybaf.prog w = .ok (.slice (some ⟨w.heap.size, 0, none⟩) n n) (w.alloc (.cells (madeCells #[.int .u8 0] n) 5)) :=
  run_make_row' 22 5 (.int .u8 0) 1 Ybaf.underlying22 (by kernel_rfl) rfl .i64 .i64 n (by omega) (by omega) w

theorem heap_new (w : World) (o : Obj) : (w.alloc o).heap[w.heap.size]? = some o := by
  show (w.heap.push o)[w.heap.size]? = _
  simp
theorem setRow_new (w : World) (c c' : Array Value) (t : TypeId) : (w.alloc (.cells c t)).setRow w.heap.size c' = w.alloc (.cells c' t) := by
  unfold World.setRow World.alloc
  congr 1
  apply Array.ext_getElem?
  intro k
  rw [Array.getElem?_modify]
  by_cases hk : w.heap.size = k
  · subst hk
    simp
  · have hk' : k ≠ w.heap.size := fun e => hk e.symm
    simp [hk, hk', Array.getElem?_push]

theorem copy_bytes (w : World) (a : Option Addr) (n c : Nat) (zs : List Int) (h : IsRow .u8 w a n c zs) (ty : TypeId) :
    (Builtin.copy_ #[22, 22] ty #[.slice (some ⟨w.heap.size, 0, none⟩) n n, .slice a n c]).run Ybaf.prog (w.alloc (.cells (madeCells #[.int .u8 0] n) 5)) = .ok (goInt n) (w.alloc (.cells (bytesV (zs.take n)) 5)) := by
  rcases h with ⟨rfl, rfl, rfl, rfl⟩ | ⟨x, rfl, hl, hm, hz, hc, hw⟩
  · rw [run_copy_nil Ybaf.prog _ 22 22 ty 5 _ 0 0 Ybaf.underlying22 (by kernel_rfl)]
    have e : madeCells #[Value.int .u8 0] 0 = bytesV (List.take 0 []) := by simp [madeCells, bytesV]
    rw [e]
    rfl
  · have hlen : ((zs.take n).map (Value.int .u8)).length = n := by simp; omega
    rw [run_copy_row Ybaf.prog _ 22 22 ty 5 w.heap.size 0 n n x n c (madeCells #[.int .u8 0] n) 5 ((zs.take n).map (Value.int .u8)) Ybaf.underlying22 (by kernel_rfl) (heap_new w _) (by rw [hlen]; simp)
      ?_ (by rw [hlen, size_madeCells]; omega) ?_]
    · rw [hlen, setRow_new]
      have e : (madeCells #[Value.int .u8 0] n).toList.drop (0 + n) = [] := by
        apply List.drop_eq_nil_of_le
        simp [size_madeCells]
      rw [e]
      simp [bytesV]
    · intro j v hj
      have hj' := hj
      rw [List.getElem?_map] at hj
      obtain ⟨z, hz1, rfl⟩ := Option.map_eq_some_iff.1 hj
      have hjn : j < n := by have := (List.getElem?_eq_some_iff.1 hj').1; omega
      have hcj := hc j (by omega)
      rw [List.getElem?_take_of_lt hjn] at hz1
      have e : zs.getD j 0 = z := by simp [List.getD, hz1]
      rw [e] at hcj
      exact cell_later ((Below.refl _ w).alloc (Nat.le_refl _) _) hcj
    · intro v hv
      obtain ⟨z, _, rfl⟩ := List.mem_map.1 hv
      rfl

theorem neq_d_same (a : Addr) (w : World) : (binOp .neq 39 (.pointer (some a)) (.pointer (some a))).run Ybaf.prog w = .ok (.bool false) w := by
  obtain ⟨j, hj⟩ : ∃ j, Ybaf.prog.info? 42 = some j := Option.isSome_iff_exists.1 (by kernel_rfl)
  have h : ∀ d : Nat, (Op.equalIn (d + 1) 39 (.pointer (some a)) (.pointer (some a))).run Ybaf.prog w = .ok true w := fun d => by
    simp [Op.equalIn, run_underlying Ybaf.underlying39, sizeOf, typeInfo, hj, run_sameAddr_same]
  simp only [binOp]
  simp [Op.equal, Op.maxDepth, h 9999]

/-- 'zzs0120bsame' at the copy and the slice that it is a copy of. -/
theorem bsame_any (g : Nat) (a : Option Addr) (n c : Nat) (zs : List Int) (w w' : World) (h : IsRow .u8 w a n c zs) (hn : n ≤ 1024) (hb : Below w.heap.size w w') (hg : ∀ i, w'.cell? ⟨g, i, none⟩ = (bytesV (zs.take n))[i]?) :
    Calls Ybaf.prog 12 #[.slice (some ⟨g, 0, none⟩) n n, .slice a n c] w' fun e w'' => e = .returned (.bool true) ∧ ∃ k, w'' = w'.drewN k := by
  by_cases h0 : n = 0
  · subst h0
    exact bsame_0 _ _ _ _ _
  rcases h with ⟨rfl, rfl, rfl, rfl⟩ | ⟨x, rfl, hl, hm, hz, hc, hw⟩
  · exact absurd rfl h0
  · obtain ⟨b, o, spot⟩ := x
    have hspot : spot = none := by simpa [Addr.add] using World.cell?_spot (hc 0 (by omega))
    subst hspot
    refine bsame_pos g 0 b o n n c zs hn w' (fun i hi => ?_) (fun i hi => ?_)
    · rw [Nat.zero_add, hg i]
      simp only [bytesV, List.getElem?_toArray, List.getElem?_map]
      rw [List.getElem?_take_of_lt hi, List.getElem?_eq_getElem (by omega)]
      simp [List.getD, List.getElem?_eq_getElem (show i < zs.length by omega)]
    · have := hc i (by omega)
      rw [add_plain] at this
      exact cell_later hb this

theorem below2 (u : World) (o1 o2 : Obj) : Below u.heap.size u ((u.alloc o1).alloc o2) := ((Below.refl _ _).alloc (Nat.le_refl _) _).alloc (by simp) _
theorem below4 (u : World) (o1 o2 o3 o4 : Obj) : Below u.heap.size u ((((u.alloc o1).alloc o2).alloc o3).alloc o4) := ((below2 u o1 o2).alloc (by simp; omega) _).alloc (by simp; omega) _
theorem row_kept (w W : World) (cs : Array Value) (t : TypeId) (hb : Below (w.alloc (.cells cs t)).heap.size (w.alloc (.cells cs t)) W) (i : Nat) : W.cell? ⟨w.heap.size, i, none⟩ = cs[i]? := by
  rw [hb.cell (p := ⟨w.heap.size, i, none⟩) (by simp)]; simp

set_option maxHeartbeats 1000000 in
theorem lawB_low (F : Interp) (n : Int) (nm : ByteArray) (a : Option Addr) (len cap : Nat) (zs : List Int) (w : World) (hF : F.answers w.tape) (h : IsRow .u8 w a len cap zs) (hlen : len ≤ 1024) (hn : n < 1) :
    Calls Ybaf.prog 5 #[.int .i64 n, .string nm, .slice a len cap] w fun e w' => e = .returned (.bool true) ∧ Below w.heap.size w w' := by
  have hmk := make_bytes len (by omega)
  have hcp := fun ty => copy_bytes w a len cap zs h ty
  have hl : ¬ (1024 : Int) < (len : Int) := by omega
  have hnq := neq_d_same
  have H : Hid (IsRow .u8 w a len cap zs) := h
  have H1 : ∀ o, Hid (Below w.heap.size w (w.alloc o)) := fun o => (Below.refl _ _).alloc (Nat.le_refl _) _
  clear h
  go_enter Ybaf.func5, Ybaf.ntmps5
  go_wp2_with (fail)
  refine (count_low F (w.heap.size + 1 + 1) (w.heap.size + 1) n nm _ ?_ hn ?_ ?_ ?_ ?_).mono ?_
  · exact hF
  · simp
  · simp [go_sem]
  · simp [go_sem]
  · simp [go_sem]
  rintro e w1 ⟨rfl, cs, txt, rfl⟩
  simp only [ruleLow]
  clear hmk hcp
  go_wp2_with (fail)
  refine (bsame_any w.heap.size a len cap zs w _ H.out hlen ?_ (fun i => row_kept w _ _ 5 ?_ i)).mono ?_
  · exact ((H1 _).out.trans ((below4 _ _ _ _ _).mono (by simp))).drew
  · exact (below4 _ _ _ _ _).drew
  rintro e w2 ⟨rfl, k, rfl⟩
  go_wp2
  go_ret
  exact ⟨rfl, below_drewN ((H1 _).out.trans ((below4 _ _ _ _ _).mono (by simp))) _⟩

set_option maxHeartbeats 1000000 in
theorem lawB_high (F : Interp) (n : Int) (nm : ByteArray) (a : Option Addr) (len cap : Nat) (zs : List Int) (w : World) (hF : F.answers w.tape) (h : IsRow .u8 w a len cap zs) (hlen : len ≤ 1024) (hn : 13 < n) :
    Calls Ybaf.prog 5 #[.int .i64 n, .string nm, .slice a len cap] w fun e w' => e = .returned (.bool true) ∧ Below w.heap.size w w' := by
  have hmk := make_bytes len (by omega)
  have hcp := fun ty => copy_bytes w a len cap zs h ty
  have hl : ¬ (1024 : Int) < (len : Int) := by omega
  have hnq := neq_d_same
  have hn1 : ¬ n < 1 := by omega
  have H : Hid (IsRow .u8 w a len cap zs) := h
  have H1 : ∀ o, Hid (Below w.heap.size w (w.alloc o)) := fun o => (Below.refl _ _).alloc (Nat.le_refl _) _
  clear h
  go_enter Ybaf.func5, Ybaf.ntmps5
  go_wp2_with (fail)
  refine (count_high F (w.heap.size + 1 + 1) (w.heap.size + 1) n nm _ ?_ hn ?_ ?_ ?_ ?_).mono ?_
  · exact hF
  · simp
  · simp [go_sem]
  · simp [go_sem]
  · simp [go_sem]
  rintro e w1 ⟨rfl, cs, txt, rfl⟩
  simp only [ruleLong]
  clear hmk hcp
  go_wp2_with (fail)
  refine (bsame_any w.heap.size a len cap zs w _ H.out hlen ?_ (fun i => row_kept w _ _ 5 ?_ i)).mono ?_
  · exact ((H1 _).out.trans ((below4 _ _ _ _ _).mono (by simp))).drew
  · exact (below4 _ _ _ _ _).drew
  rintro e w2 ⟨rfl, k, rfl⟩
  go_wp2
  go_ret
  exact ⟨rfl, below_drewN ((H1 _).out.trans ((below4 _ _ _ _ _).mono (by simp))) _⟩

set_option maxHeartbeats 1000000 in
theorem lawB_mid (n : Int) (nm : ByteArray) (a : Option Addr) (len cap : Nat) (zs : List Int) (w : World) (h : IsRow .u8 w a len cap zs) (hlen : len ≤ 1024) (hn1 : ¬ n < 1) (hn2 : ¬ 13 < n) :
    Calls Ybaf.prog 5 #[.int .i64 n, .string nm, .slice a len cap] w fun e w' => e = .returned (.bool true) ∧ Below w.heap.size w w' := by
  have hmk := make_bytes len (by omega)
  have hcp := fun ty => copy_bytes w a len cap zs h ty
  have hl : ¬ (1024 : Int) < (len : Int) := by omega
  have hnq := neq_d_same
  have H : Hid (IsRow .u8 w a len cap zs) := h
  have H1 : ∀ o, Hid (Below w.heap.size w (w.alloc o)) := fun o => (Below.refl _ _).alloc (Nat.le_refl _) _
  clear h
  go_enter Ybaf.func5, Ybaf.ntmps5
  go_wp2_with (fail)
  refine (count_mid (w.heap.size + 1 + 1) n nm _ (by omega) (by omega)).mono ?_
  rintro e w1 ⟨rfl, rfl⟩
  clear hmk hcp
  go_wp2_with (fail)
  refine (bsame_any w.heap.size a len cap zs w _ H.out hlen ?_ (fun i => row_kept w _ _ 5 ?_ i)).mono ?_
  · exact ((H1 _).out.trans ((below2 _ _ _).mono (by simp)))
  · exact below2 _ _ _
  rintro e w2 ⟨rfl, k, rfl⟩
  go_wp2
  go_ret
  exact ⟨rfl, below_drewN ((H1 _).out.trans ((below2 _ _ _).mono (by simp))) _⟩

set_option maxHeartbeats 400000 in
theorem lawB_long (n : Int) (nm : ByteArray) (a : Option Addr) (len cap : Nat) (w : World) (hlen : 1024 < len) :
    Calls Ybaf.prog 5 #[.int .i64 n, .string nm, .slice a len cap] w fun e w' => e = .returned (.bool true) ∧ Below w.heap.size w w' := by
  have hl : (1024 : Int) < (len : Int) := by omega
  go_enter Ybaf.func5, Ybaf.ntmps5
  go_wp2
  go_ret
  exact ⟨rfl, Below.refl _ _⟩

theorem lawB_walk (F : Interp) (n : Int) (nm : ByteArray) (a : Option Addr) (len cap : Nat) (zs : List Int) (w : World) (hF : F.answers w.tape) (h : IsRow .u8 w a len cap zs) :
    Calls Ybaf.prog 5 #[.int .i64 n, .string nm, .slice a len cap] w fun e w' => e = .returned (.bool true) ∧ Below w.heap.size w w' := by
  by_cases hl : len ≤ 1024
  · by_cases h1 : n < 1
    · exact lawB_low F n nm a len cap zs w hF h hl h1
    · by_cases h2 : 13 < n
      · exact lawB_high F n nm a len cap zs w hF h hl h2
      · exact lawB_mid n nm a len cap zs w h hl h1 h2
  · exact lawB_long n nm a len cap w (by omega)
end Go.Proofs.YbulkblqFmt
