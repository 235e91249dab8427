import Derived.Test.YbulkbugE
import Derived.Test.YbulkbugP
import Derived.LoopTactic
namespace Go.Proofs.Ybulkbug
open Go.RowKit
open Go.WideShapes (add_plain)

theorem add_lit (w : World) (bB : Nat) (ar ao af : Option Addr) (cr co cf : Nat) (start : Int) (ps : List Nat) (os fs : List Int) (p wd : Nat) (h : BS w bB ar ao af cr co cf start ps os fs)
    (hp : bB + 1 < p ∧ p + 1 < w.heap.size ∧ w.cell? ⟨p, 0, none⟩ = some (.int .i64 (ps.length : Nat)) ∧ w.cell? ⟨p + 1, 0, none⟩ = some (.pointer (some ⟨bB + 1, 0, none⟩)) ∧ Apart ar ao af p ∧ Apart ar ao af (p + 1))
    (hwd : wd ≤ 4) (hn : ps.length ≤ 1000) (ho : os.length ≤ 10000) (hf : fs.length ≤ 1000) :
    Calls Yba.prog 4 #[.pointer (some ⟨bB, 0, none⟩), .agg #[.nilIface, .func (.func 7) #[] #[.pointer (some ⟨p + 1, 0, none⟩), .pointer (some ⟨p, 0, none⟩)], .bool false, .int .i64 0, .float .f64 0, .string ⟨#[]⟩], .int .i64 wd] w fun e w' => e = .returned (.tuple #[]) ∧
      ∃ ar' ao' af' cr' co' cf', BS w' bB ar' ao' af' cr' co' cf' start (ps ++ [p]) (os ++ List.replicate wd (ps.length : Int)) (fs ++ [(os.length : Int)]) ∧ Below bB w w' :=
  add_any w bB ar ao af cr co cf start ps os fs p wd h hp hwd hn ho hf

theorem BS_new (w : World) (start : Int) : BS ((w.alloc (.cells #[.slice none 0 0, .slice none 0 0, .slice none 0 0, .int .i64 0, .int .i64 start] 28)).alloc (.cells #[.slice none 0 0, .slice none 0 0] 31)) w.heap.size none none none 0 0 0 start [] [] [] := by
  refine ⟨by simp, by simp [go_sem], by simp [go_sem], by simp [go_sem], by simp [go_sem], by simp [go_sem], fun o => by simp [go_sem], fun o => by simp [go_sem], by simp [go_sem], by simp [go_sem], World.ownsRow_nil _ _ _ _, World.ownsRow_nil _ _ _ _, World.ownsRow_nil _ _ _ _, ?_, .inl rfl, .inl rfl, .inl rfl⟩
  intro j p h
  simp at h

/-- The two boxes of a new closure. -/
theorem new_closure {w : World} {bB : Nat} {ar ao af : Option Addr} {cr co cf : Nat} {start : Int} {ps : List Nat} {os fs : List Int} (h : BS w bB ar ao af cr co cf start ps os fs) :
    BS ((w.alloc (.cells #[.int .i64 (ps.length : Nat)] 3)).alloc (.cells #[.pointer (some ⟨bB + 1, 0, none⟩)] 29)) bB ar ao af cr co cf start ps os fs ∧
    (bB + 1 < w.heap.size ∧ w.heap.size + 1 < ((w.alloc (.cells #[.int .i64 (ps.length : Nat)] 3)).alloc (.cells #[.pointer (some ⟨bB + 1, 0, none⟩)] 29)).heap.size ∧ ((w.alloc (.cells #[.int .i64 (ps.length : Nat)] 3)).alloc (.cells #[.pointer (some ⟨bB + 1, 0, none⟩)] 29)).cell? ⟨w.heap.size, 0, none⟩ = some (.int .i64 (ps.length : Nat)) ∧
      ((w.alloc (.cells #[.int .i64 (ps.length : Nat)] 3)).alloc (.cells #[.pointer (some ⟨bB + 1, 0, none⟩)] 29)).cell? ⟨w.heap.size + 1, 0, none⟩ = some (.pointer (some ⟨bB + 1, 0, none⟩)) ∧ Apart ar ao af w.heap.size ∧ Apart ar ao af (w.heap.size + 1)) := by
  have ap : ∀ x, w.heap.size ≤ x → Apart ar ao af x := fun x hx => ⟨fun e => by have := (h.rlt e).2; omega, fun e => by have := (h.olt e).2; omega, fun e => by have := (h.flt e).2; omega⟩
  exact ⟨h.same (((Below.refl _ _).alloc (Nat.le_refl _) _).alloc (by simp) _), h.sz, by simp, by simp, by simp, ap _ (Nat.le_refl _), ap _ (by omega)⟩

theorem relsV_get (ps : List Nat) (j p : Nat) (h : ps[j]? = some p) : (relsV ps)[j * 6 + 1]? = some (fnV p) := by
  induction ps generalizing j with
  | nil => simp at h
  | cons q ps ih =>
    have e : relsV (q :: ps) = relC q ++ relsV ps := by simp [relsV]
    rw [e]
    cases j with
    | zero =>
      simp at h
      subst h
      simp [relC]
    | succ j =>
      simp at h
      rw [List.getElem?_append_right (by simp [relC]; omega)]
      have e2 : (j + 1) * 6 + 1 - (relC q).length = j * 6 + 1 := by simp [relC]; omega
      rw [e2]
      exact ih j h

theorem row_form {w : World} {base : Nat} {e : TypeId} {size : Nat} {a : Option Addr} {n c : Nat} {xs : List Value} (h : w.ownsRow base e size (.slice a n c) n xs) (hn : 1 ≤ n) :
    ∃ g, a = some ⟨g, 0, none⟩ ∧ base ≤ g ∧ g < w.heap.size ∧ ∀ (j : Nat) u, xs[j]? = some u → w.cell? ⟨g, j, none⟩ = some u := by
  rcases h.2 with ⟨hv, h0⟩ | ⟨g, cap, cur, hv, hb, hg, rest⟩
  · omega
  · have ha : a = some ⟨g, 0, none⟩ := by simpa using congrArg (fun v => match v with | Value.slice a _ _ => a | _ => none) hv
    refine ⟨g, ha, hb, (Array.getElem?_eq_some_iff.1 hg).1, fun j u hu => ?_⟩
    have := h.cells (g := g) (by rw [hv]; rfl) j u hu
    rw [add_plain, Nat.zero_add] at this
    exact this

/-- 'stats' at a column that the j-th input owns. -/
theorem stats_bs {w : World} {bB : Nat} {ar ao af : Option Addr} {cr co cf : Nat} {start : Int} {ps : List Nat} {zs : List Int} {n : Nat} (h : BS w bB ar ao af cr co cf start ps (own zs n) (offs zs n)) (hps : ps.length = n) (hn : n ≤ 256) (col j : Nat) (hj : j < n) (h1 : totN zs j ≤ col) (h2 : col < totN zs (j + 1)) :
    Calls Yba.prog 6 #[.pointer (some ⟨bB, 0, none⟩), .int .i64 col] w fun e w' => e = .returned (.tuple #[.agg (statV ((j : Int) * 1000 + ((col : Int) - (totN zs j : Int)))), .bool ((j : Int) % 2 == 0)]) ∧ After w w' bB start j ((col : Int) - (totN zs j : Int)) := by
  have t1 := totN_mono zs (show j + 1 ≤ n by omega)
  have t2 := totN_le zs n
  obtain ⟨p, hp⟩ : ∃ p, ps[j]? = some p := ⟨_, List.getElem?_eq_getElem (show j < ps.length by omega)⟩
  obtain ⟨gr, rfl, r1, r2, r3⟩ := row_form h.or (by omega)
  obtain ⟨go, rfl, o1, o2, o3⟩ := row_form h.oo (by rw [own_length]; omega)
  obtain ⟨gf, rfl, f1, f2, f3⟩ := row_form h.of (by rw [offs_length]; omega)
  obtain ⟨q1, q2, q3, q4, -, -⟩ := h.clo j p hp
  have hgo := o3 col (.int .i64 (j : Int)) (by simp only [i64s, List.getElem?_map, own_get zs n j col hj h1 h2]; rfl)
  have hgf := f3 j (.int .i64 (totN zs j : Int)) (by simp only [i64s, List.getElem?_map, offs_get zs n j hj]; rfl)
  have hgr := r3 (j * 6 + 1) (fnV p) (relsV_get ps j p hp)
  refine (stats_core w bB gr go gf ps.length (own zs n).length (offs zs n).length cr co cf p start col j (totN zs j) h.c0 h.c1 h.c2 h.c4 (h.fz 4) (h.fl 0) (h.fl 1) h.l0 h.l1 hgo hgf hgr q3 q4 (by rw [own_length]; omega) (by omega) (by rw [offs_length]; omega) (by omega) (by omega) (by omega) (by omega) h.sz (by omega) r2 (by omega) o2 (by omega) f2 q1 q2).mono ?_
  rintro e w' ⟨rfl, c1', c2', z1, z2, x1, x2, rfl⟩
  exact ⟨rfl, after_mk w bB start j col (totN zs j) c1' c2' z1 z2 x1 x2 h.sz h.c3 h.c4 h.l0 h.l1⟩

set_option maxRecDepth 100000 in
set_option maxHeartbeats 1000000 in
theorem owner_walk (b0 o0 n cap : Nat) (zs : List Int) (pick start : Int) (w : World) (hn0 : 1 ≤ n) (hn1 : n ≤ 256) (hz : ∀ i, i < n → w.cell? ⟨b0, o0 + i, none⟩ = some (.int .u8 (zs.getD i 0))) (hzb : ∀ i, 0 ≤ zs.getD i 0 ∧ zs.getD i 0 ≤ 255) (hp0 : 0 ≤ pick) (hp1 : pick ≤ 18446744073709551615) :
    Calls Yba.prog 3 #[.slice (some ⟨b0, o0, none⟩) n cap, .int .u64 pick, .int .i64 start] w fun e w' => e = .returned (.bool true) ∧ Below w.heap.size w w' := by
  have g1 : ((n : Int) == 0) = false := by simp; omega
  have g2 : ¬ (256 : Int) < (n : Int) := by omega
  have Hz : Hid (∀ i, i < n → w.cell? ⟨b0, o0 + i, none⟩ = some (.int .u8 (zs.getD i 0))) := hz
  have Hzb : Hid (∀ i, 0 ≤ zs.getD i 0 ∧ zs.getD i 0 ≤ 255) := hzb
  clear hz hzb
  have HS0 : Hid (BS ((w.alloc (.cells #[.slice none 0 0, .slice none 0 0, .slice none 0 0, .int .i64 0, .int .i64 start] 28)).alloc (.cells #[.slice none 0 0, .slice none 0 0] 31)) w.heap.size none none none 0 0 0 start [] [] []) := BS_new w start
  have HB0 : Hid (Below w.heap.size w ((w.alloc (.cells #[.slice none 0 0, .slice none 0 0, .slice none 0 0, .int .i64 0, .int .i64 start] 28)).alloc (.cells #[.slice none 0 0, .slice none 0 0] 31))) := ((Below.refl _ _).alloc (Nat.le_refl _) _).alloc (by simp) _
  go_enter Yba.func3, Yba.ntmps3
  go_wp2_with (fail)
  go_loopw [9, 10] (fun t k w' => ∃ (kk : Nat) (ps : List Nat) (ar ao af : Option Addr) (cr co cf : Nat), kk ≤ n ∧ k = .int .i64 kk ∧ t = .int .i64 (totN zs kk) ∧ ps.length = kk ∧ BS w' w.heap.size ar ao af cr co cf start ps (own zs kk) (offs zs kk) ∧ Below w.heap.size w w') (fun _ k _ => n - (intOf k).toNat)
  case atStart => exact ⟨0, [], none, none, none, 0, 0, 0, Nat.zero_le _, rfl, rfl, rfl, HS0.out, HB0.out⟩
  case round =>
    obtain ⟨kk, ps, ar, ao, af, cr, co, cf, hk, rfl, rfl, hps, hS, hB⟩ := hrel
    have HS : Hid (BS wr w.heap.size ar ao af cr co cf start ps (own zs kk) (offs zs kk)) := hS
    have HB : Hid (Below w.heap.size w wr) := hB
    have Hps : Hid (ps.length = kk) := hps
    have htl := totN_le zs kk
    clear hS hB hps HS0 HB0
    by_cases hlt : kk < n
    · have hc : wr.cell? ⟨b0, o0 + kk, none⟩ = some (.int .u8 (zs.getD kk 0)) := cell_later HB.out (Hz.out kk hlt)
      have hbd := Hzb.out kk
      have hb1 := hbd.1
      have hb2 := hbd.2
      have hwd := wdN_int (zs.getD kk 0)
      have hkn : (kk : Int) < (n : Int) := by omega
      obtain ⟨z, hzv⟩ : ∃ z, zs.getD kk 0 = z := ⟨_, rfl⟩
      have Hzv : Hid (zs.getD kk 0 = z) := hzv
      rw [hzv] at hc hb1 hb2 hwd
      clear hbd hzv
      go_wp2_with (fail)
      refine (mk_any kk (w.heap.size + 1) wr).mono ?_
      rintro e w1 ⟨rfl, rfl⟩
      go_wp2_with (fail)
      have hcl := new_closure HS.out
      rw [Hps.out] at hcl
      refine (add_lit _ w.heap.size ar ao af cr co cf start ps (own zs kk) (offs zs kk) wr.heap.size (wdN z) hcl.1 (by rw [Hps.out]; exact hcl.2) (wdN_le _) (by rw [Hps.out]; omega) (by rw [own_length]; omega) (by rw [offs_length]; omega)).mono ?_
      rintro e w2 ⟨rfl, ar', ao', af', cr', co', cf', hS2, hB2⟩
      have HS2 : Hid (BS w2 w.heap.size ar' ao' af' cr' co' cf' start (ps ++ [wr.heap.size]) (own zs (kk + 1)) (offs zs (kk + 1))) := by
        rw [Hps.out, own_length, ← Hzv.out] at hS2
        exact hS2
      have HB2 : Hid (Below w.heap.size w w2) := (HB.out.trans ((((Below.refl _ _).alloc (Nat.le_refl _) _).alloc (by simp) _).mono HB.out.size)).trans hB2
      have HP2 : Hid ((ps ++ [wr.heap.size]).length = kk + 1) := by show _ = _; rw [List.length_append, Hps.out]; rfl
      have HT : Hid ((totN zs kk : Int) + (wdN z : Int) = (totN zs (kk + 1) : Int)) := by show _ = _; rw [totN_succ, Hzv.out]; omega
      have hw4 := wdN_le z
      clear hS2 hB2 hcl HS HB
      go_wp2
      go_roundw
      case rel => exact ⟨kk + 1, _, ar', ao', af', cr', co', cf', by omega, by go_num, by rw [← HT.out], HP2.out, HS2.out, HB2.out⟩
      case measure => simp [intOf]; omega
    · have ht1 : (1 : Int) ≤ (totN zs kk : Int) := by have := totN_ge zs kk; omega
      have ht2 : (totN zs kk : Int) ≤ 1024 := by omega
      have ht3 : ((totN zs kk : Int) == 0) = false := by simp; omega
      have Hkn : Hid (kk = n) := by show _ = _; omega
      obtain ⟨col, hcol, hcl⟩ : ∃ col : Nat, pick % (totN zs kk : Int) = (col : Int) ∧ col < totN zs kk := ⟨(pick % (totN zs kk : Int)).toNat, by have := Int.emod_nonneg pick (show (totN zs kk : Int) ≠ 0 by omega); omega, by have := Int.emod_nonneg pick (show (totN zs kk : Int) ≠ 0 by omega); have := Int.emod_lt_of_pos pick (show 0 < (totN zs kk : Int) by omega); omega⟩
      go_wp2_with (fail)
      clear hcol
      go_loop [13, 14, 15, 16] (fun ow of_ at_ k => ∃ (k2 : Nat) (o f : Int), k2 ≤ n ∧ k = .int .i64 k2 ∧ at_ = .int .i64 (totN zs k2) ∧ ow = .int .i64 o ∧ of_ = .int .i64 f ∧ Found zs col k2 o f) (fun _ _ _ k => n - (intOf k).toNat)
      case atStart => exact ⟨0, -1, 0, Nat.zero_le _, rfl, rfl, rfl, rfl, found_zero zs col⟩
      case round =>
        obtain ⟨k2, o, f, hk2, rfl, rfl, rfl, rfl, hF⟩ := hrel
        have htl2 := totN_le zs k2
        by_cases hlt2 : k2 < n
        · have hc : wr.cell? ⟨b0, o0 + k2, none⟩ = some (.int .u8 (zs.getD k2 0)) := cell_later HB.out (Hz.out k2 hlt2)
          have hbd := Hzb.out k2
          have hb1 := hbd.1
          have hb2 := hbd.2
          have hwd := wdN_int (zs.getD k2 0)
          have hkn : (k2 : Int) < (n : Int) := by omega
          have hw4 := wdN_le (zs.getD k2 0)
          have hts := totN_succ zs k2
          obtain ⟨z, hzv⟩ : ∃ z, zs.getD k2 0 = z := ⟨_, rfl⟩
          rw [hzv] at hc hb1 hb2 hwd hts hw4
          have HT : Hid (totN zs (k2 + 1) = totN zs k2 + wdN z) := hts
          clear hbd hzv hts
          rcases hF with hF | ⟨hF1, rfl, rfl⟩
          · obtain ⟨j, hj, rfl, rfl, hj1, hj2⟩ := hF
            have hfk := found_keep zs col k2 (ow := (j : Int)) (of_ := (totN zs j : Int)) ⟨j, hj, rfl, rfl, hj1, hj2⟩
            have HF : Hid (Found zs col (k2 + 1) (j : Int) (totN zs j : Int)) := hfk
            have hj0 : ¬ (j : Int) < 0 := by omega
            clear hfk
            go_wp2
            go_round
            case rel => exact ⟨k2 + 1, j, totN zs j, by omega, by go_num, by rw [HT.out]; go_num, rfl, rfl, HF.out⟩
            case measure => simp [intOf]; omega
          · have hF1' : (totN zs k2 : Int) ≤ (col : Int) := by omega
            by_cases hit : col < totN zs (k2 + 1)
            · have HF : Hid (Found zs col (k2 + 1) (k2 : Int) (totN zs k2 : Int)) := found_hit zs col k2 hF1 hit
              have hit' : (col : Int) < (totN zs k2 : Int) + (wdN z : Int) := by rw [HT.out] at hit; omega
              clear hit
              go_wp2
              go_round
              case rel => exact ⟨k2 + 1, k2, totN zs k2, by omega, by go_num, by rw [HT.out]; go_num, rfl, rfl, HF.out⟩
              case measure => simp [intOf]; omega
            · have HF : Hid (Found zs col (k2 + 1) (-1) 0) := found_miss zs col k2 (by omega)
              have hit' : ¬ (col : Int) < (totN zs k2 : Int) + (wdN z : Int) := by rw [HT.out] at hit; omega
              clear hit
              go_wp2
              go_round
              case rel => exact ⟨k2 + 1, -1, 0, by omega, by go_num, by rw [HT.out]; go_num, rfl, rfl, HF.out⟩
              case measure => simp [intOf]; omega
        · obtain ⟨j, hj, rfl, rfl, hj1, hj2⟩ : ∃ j, j < n ∧ o = (j : Int) ∧ f = (totN zs j : Int) ∧ totN zs j ≤ col ∧ col < totN zs (j + 1) := by
            have e : k2 = n := by omega
            have e2 := Hkn.out
            subst e
            rw [e2] at hcl
            rcases hF with hF | ⟨hF1, _⟩
            · exact hF
            · omega
          have hj0 : ¬ (j : Int) < 0 := by omega
          go_wp2_with (fail)
          refine (stats_bs (zs := zs) (n := n) (w := wr) (by have := HS.out; rw [Hkn.out] at this; exact this) (by rw [Hps.out]; exact Hkn.out) hn1 col j hj hj1 hj2).mono ?_
          rintro e w7 ⟨rfl, hA⟩
          have HB7 : Hid (Below w.heap.size w w7) := HB.out.trans hA.bel
          have hr := hA.r
          have hwt := hA.wt
          obtain ⟨g, cg, hk0, hk1, hk2⟩ := hA.ks
          obtain ⟨g', cg', hi0, hi1, hi2⟩ := hA.is
          have z0 := hA.sz
          have z1 : w.heap.size < w7.heap.size := by omega
          clear hA HB HS Hz Hzb
          have d0 : (totN zs j : Int) ≤ (col : Int) := by omega
          have d1 : (col : Int) ≤ 1024 := by omega
          have d2 : (j : Int) ≤ 256 := by omega
          have d3 : (0 : Int) ≤ (totN zs j : Int) := by omega
          have d4 : IntKind.i64.wrap ((col : Int) - (totN zs j : Int)) = (col : Int) - (totN zs j : Int) := by
            simp only [IntKind.wrap, IntKind.bits, IntKind.signed]
            simp
            omega
          clear hcl hj hj1 hj2 hF ht1 ht2 ht3
          simp only [statV]
          go_wp2
          go_ret
          exact ⟨rfl, HB7.out.alloc (Nat.le_of_lt z1) _⟩
end Go.Proofs.Ybulkbug
