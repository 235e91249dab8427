import Derived.Test.YbulkblcC
namespace Go.Proofs.Ybulkblc
open Go.RowKit

/-- The nat '.slice a l c' stands for m; its one word, where it has one, lies in a block below B. -/
def IsNat (B : Nat) (w : World) (a : Option Addr) (l c : Nat) (m : Int) : Prop :=
  (m = 0 ∧ l = 0) ∨ (0 < m ∧ m < 18446744073709551616 ∧ l = 1 ∧ 1 ≤ c ∧ ∃ b, a = some ⟨b, 0, none⟩ ∧ b < B ∧ w.cell? ⟨b, 0, none⟩ = some (.int .u64 m))

theorem IsNat.below {B : Nat} {w w' : World} {a : Option Addr} {l c : Nat} {m : Int} (h : IsNat B w a l c m) (hb : Below B w w') : IsNat B w' a l c m := by
  rcases h with h | ⟨h1, h2, h3, h4, b, h5, h6, h7⟩
  · exact .inl h
  · exact .inr ⟨h1, h2, h3, h4, b, h5, h6, by rw [hb.cell (p := ⟨b, 0, none⟩) h6]; exact h7⟩
theorem IsNat.mono {B B' : Nat} {w : World} {a : Option Addr} {l c : Nat} {m : Int} (h : IsNat B w a l c m) (hb : B ≤ B') : IsNat B' w a l c m := by
  rcases h with h | ⟨h1, h2, h3, h4, b, h5, h6, h7⟩
  · exact .inl h
  · exact .inr ⟨h1, h2, h3, h4, b, h5, by omega, h7⟩

def cmpZ (m n : Int) : Int := if m < n then -1 else if n < m then 1 else 0

theorem cmp_any {B : Nat} {w : World} {a1 a2 : Option Addr} {l1 c1 l2 c2 : Nat} {m n : Int} (h1 : IsNat B w a1 l1 c1 m) (h2 : IsNat B w a2 l2 c2 n) :
    Calls Yba.prog 19 #[.slice a1 l1 c1, .slice a2 l2 c2] w fun e w' => e = .returned (.int .i64 (cmpZ m n)) ∧ ∃ n, w' = w.drewN n := by
  unfold cmpZ
  rcases h1 with ⟨rfl, rfl⟩ | ⟨p1, q1, rfl, k1, b1, rfl, r1, s1⟩
  · rcases h2 with ⟨rfl, rfl⟩ | ⟨p2, q2, rfl, k2, b2, rfl, r2, s2⟩
    · exact cmp_00 _ _ _ _ _
    · rw [if_pos p2]; exact cmp_01 _ _ _ _ _
  · rcases h2 with ⟨rfl, rfl⟩ | ⟨p2, q2, rfl, k2, b2, rfl, r2, s2⟩
    · rw [if_neg (by omega), if_pos p1]; exact cmp_10 _ _ _ _ _
    · by_cases hlt : m < n
      · rw [if_pos hlt]; exact cmp_11_lt _ _ _ _ m n w s1 s2 hlt
      · rw [if_neg hlt]
        by_cases hgt : n < m
        · rw [if_pos hgt]; exact cmp_11_gt _ _ _ _ m n w s1 s2 hgt
        · rw [if_neg hgt]
          have e : n = m := by omega
          subst e
          exact cmp_11_eq _ _ _ _ n w s1 s2

theorem below_alloc_drewN (w : World) (o : Obj) (n : Nat) : Below w.heap.size w ((w.alloc o).drewN n) := below_drewN ((Below.refl _ _).alloc (Nat.le_refl _) _) n

/-- A nat that the callee has handed back: nothing, or one word in the first new block. -/
def NewNat (w w' : World) (a : Option Addr) (l c : Nat) (m : Int) : Prop :=
  (m = 0 ∧ l = 0) ∨ (0 < m ∧ m < 18446744073709551616 ∧ l = 1 ∧ 1 ≤ c ∧ a = some ⟨w.heap.size, 0, none⟩ ∧ w.heap.size < w'.heap.size ∧ w'.cell? ⟨w.heap.size, 0, none⟩ = some (.int .u64 m))

theorem add_any {B : Nat} {w : World} {a1 a2 : Option Addr} {l1 c1 l2 c2 : Nat} {m n : Int} (h1 : IsNat B w a1 l1 c1 m) (h2 : IsNat B w a2 l2 c2 n) (hB : B ≤ w.heap.size) (hp : 0 < m + n) (hq : m + n < 18446744073709551616) :
    Calls Yba.prog 18 #[.slice none 0 0, .slice a1 l1 c1, .slice a2 l2 c2] w fun e w' => ∃ a l c, e = .returned (.slice a l c) ∧ NewNat w w' a l c (m + n) ∧ Below w.heap.size w w' := by
  rcases h1 with ⟨rfl, rfl⟩ | ⟨p1, q1, rfl, k1, b1, rfl, r1, s1⟩
  · rcases h2 with ⟨rfl, rfl⟩ | ⟨p2, q2, rfl, k2, b2, rfl, r2, s2⟩
    · omega
    · refine (add_01 b2 c2 a1 c1 n w (by omega) s2).mono ?_
      rintro e w' ⟨rfl, rfl⟩
      exact ⟨_, 1, 1, rfl, .inr ⟨by omega, by omega, rfl, by omega, rfl, by simp, by simp⟩, (Below.refl _ _).alloc (Nat.le_refl _) _⟩
  · rcases h2 with ⟨rfl, rfl⟩ | ⟨p2, q2, rfl, k2, b2, rfl, r2, s2⟩
    · refine (add_10 b1 c1 a2 c2 m w (by omega) s1).mono ?_
      rintro e w' ⟨rfl, rfl⟩
      exact ⟨_, 1, 1, rfl, .inr ⟨by omega, by omega, rfl, by omega, rfl, by simp, by simp⟩, (Below.refl _ _).alloc (Nat.le_refl _) _⟩
    · refine (add_11 b1 c1 b2 c2 m n w (by omega) (by omega) k1 k2 s1 s2 p1 p2 hq).mono ?_
      rintro e w' ⟨rfl, k, rfl⟩
      exact ⟨_, 1, 6, rfl, .inr ⟨by omega, by omega, rfl, by omega, rfl, by simp, by simp⟩, below_alloc_drewN _ _ _⟩

theorem sub_any {B : Nat} {w : World} {a1 a2 : Option Addr} {l1 c1 l2 c2 : Nat} {m n : Int} (h1 : IsNat B w a1 l1 c1 m) (h2 : IsNat B w a2 l2 c2 n) (hB : B ≤ w.heap.size) (hp : n ≤ m) :
    Calls Yba.prog 20 #[.slice none 0 0, .slice a1 l1 c1, .slice a2 l2 c2] w fun e w' => ∃ a l c, e = .returned (.slice a l c) ∧ NewNat w w' a l c (m - n) ∧ Below w.heap.size w w' := by
  rcases h1 with ⟨rfl, rfl⟩ | ⟨p1, q1, rfl, k1, b1, rfl, r1, s1⟩
  · rcases h2 with ⟨rfl, rfl⟩ | ⟨p2, q2, rfl, k2, b2, rfl, r2, s2⟩
    · refine (sub_00 a1 a2 c1 c2 w).mono ?_
      rintro e w' ⟨rfl, rfl⟩
      exact ⟨none, 0, 0, rfl, .inl ⟨rfl, rfl⟩, Below.refl _ _⟩
    · omega
  · rcases h2 with ⟨rfl, rfl⟩ | ⟨p2, q2, rfl, k2, b2, rfl, r2, s2⟩
    · refine (sub_10 b1 c1 a2 c2 m w (by omega) s1).mono ?_
      rintro e w' ⟨rfl, rfl⟩
      exact ⟨_, 1, 1, rfl, .inr ⟨by omega, by omega, rfl, by omega, rfl, by simp, by simp⟩, (Below.refl _ _).alloc (Nat.le_refl _) _⟩
    · by_cases e : m = n
      · subst e
        refine (sub_11e b1 c1 b2 c2 m w (by omega) (by omega) k1 k2 s1 s2 (by omega) (by omega)).mono ?_
        rintro e w' ⟨rfl, k, rfl⟩
        exact ⟨_, 0, 1, rfl, .inl ⟨by omega, rfl⟩, below_alloc_drewN _ _ _⟩
      · refine (sub_11 b1 c1 b2 c2 m n w (by omega) (by omega) k1 k2 s1 s2 (by omega) (by omega) (by omega)).mono ?_
        rintro e w' ⟨rfl, k, rfl⟩
        exact ⟨_, 1, 1, rfl, .inr ⟨by omega, by omega, rfl, by omega, rfl, by simp, by simp⟩, below_alloc_drewN _ _ _⟩

theorem ne_off01 (z : Nat) : (⟨z, 0, none⟩ : Addr) ≠ ⟨z, 1, none⟩ := by intro h; cases h

theorem shape_setCell {w : World} {z i : Nat} {v : Value} {t : TypeId} (h : ∃ cs, w.heap[z]? = some (.cells cs t (0, 0))) : ∃ cs, (w.setCell ⟨z, i, none⟩ v).heap[z]? = some (.cells cs t (0, 0)) := by
  obtain ⟨cs, h⟩ := h
  simp only [World.setCell, Array.getElem?_modify, if_pos, h, Option.map_some]
  exact ⟨_, rfl⟩
/-- What Int.Sub leaves at z. -/
def Left0 (w w' : World) (z : Nat) (neg : Bool) (M : Int) : Prop :=
  w'.cell? ⟨z, 0, none⟩ = some (.bool (if M = 0 then false else neg)) ∧ (∃ a l c, w'.cell? ⟨z, 1, none⟩ = some (.slice a l c) ∧ IsNat w'.heap.size w' a l c M) ∧ w'.frozen? ⟨z, 0, none⟩ = false ∧ (∃ cs, w'.heap[z]? = some (.cells cs 42 (0, 0))) ∧ w.heap.size ≤ w'.heap.size ∧ Below z w w'

theorem left_end {w w1 : World} {z : Nat} {a : Option Addr} {l c : Nat} {M : Int} {neg bz : Bool} (hz : z < w.heap.size) (kz : w1.cell? ⟨z, 1, none⟩ = some (.slice none 0 0)) (kz0 : w1.cell? ⟨z, 0, none⟩ = some (.bool false))
    (kf0 : w1.frozen? ⟨z, 0, none⟩ = false) (hN : NewNat w w1 a l c M) (hbel : Below w.heap.size w w1) (hbz : bz = (if M = 0 then false else neg)) (zb : Hid (∃ cs, w.heap[z]? = some (.cells cs 42 (0, 0)))) :
    Left0 w ((w1.setCell ⟨z, 1, none⟩ (.slice a l c)).setCell ⟨z, 0, none⟩ (.bool bz)) z neg M := by
  have e1 : ((w1.setCell ⟨z, 1, none⟩ (.slice a l c)).setCell ⟨z, 0, none⟩ (.bool bz)).heap.size = w1.heap.size := by simp [World.setCell]
  have c0 : ((w1.setCell ⟨z, 1, none⟩ (.slice a l c)).setCell ⟨z, 0, none⟩ (.bool bz)).cell? ⟨z, 0, none⟩ = some (.bool bz) := by simp [go_sem, kz0]
  have c1 : ((w1.setCell ⟨z, 1, none⟩ (.slice a l c)).setCell ⟨z, 0, none⟩ (.bool bz)).cell? ⟨z, 1, none⟩ = some (.slice a l c) := by simp [go_sem, kz]
  refine ⟨by rw [c0, hbz], ⟨a, l, c, c1, ?_⟩, by simp [go_sem, kf0], shape_setCell (shape_setCell (by rw [hbel.block z hz]; exact zb.out)), by rw [e1]; exact hbel.size, (((hbel.mono (Nat.le_of_lt hz)).setCell (p := ⟨z, 1, none⟩) (Nat.le_refl _) _).setCell (p := ⟨z, 0, none⟩) (Nat.le_refl _) _)⟩
  rcases hN with h | ⟨h1, h2, h3, h4, h5, h6, h7⟩
  · exact .inl h
  · refine .inr ⟨h1, h2, h3, h4, _, h5, by rw [e1]; exact h6, ?_⟩
    rw [World.cell?_setCell_far _ ⟨z, 0, none⟩ _ _ (show z ≠ w.heap.size by omega), World.cell?_setCell_far _ ⟨z, 1, none⟩ _ _ (show z ≠ w.heap.size by omega)]
    exact h7
theorem below_of_drewN {w w1 : World} {k : Nat} (h : Below (w.drewN k).heap.size (w.drewN k) w1) : Below w.heap.size w w1 := (below_drewN (Below.refl _ _) k).trans h
theorem newNat_of_drewN {w w1 : World} {k : Nat} {a : Option Addr} {l c : Nat} {m : Int} (h : NewNat (w.drewN k) w1 a l c m) : NewNat w w1 a l c m := h
theorem isNat_drewN {B : Nat} {w : World} {k : Nat} {a : Option Addr} {l c : Nat} {m : Int} (h : IsNat B w a l c m) : IsNat B (w.drewN k) a l c m := h
theorem isNat_drew {B : Nat} {w : World} {a : Option Addr} {l c : Nat} {m : Int} (h : IsNat B w a l c m) : IsNat B w.drew a l c m := h
theorem quiet_at {P : Program} {f : FuncId} {args : Array Value} {w : World} {k n : Nat} {v : Value}
    (h : Calls P f args (w.drewN (k + n)) fun e w' => e = .returned v ∧ ∃ m, w' = (w.drewN (k + n)).drewN m) : Calls P f args (w.drewN (k + n)) fun e w'' => e = .returned v ∧ ∃ m, w'' = w.drewN (k + m) :=
  h.mono fun _ _ ⟨he, m, hm⟩ => ⟨he, n + m, by rw [hm, World.drewN_drewN, Nat.add_assoc]⟩
end Go.Proofs.Ybulkblc
