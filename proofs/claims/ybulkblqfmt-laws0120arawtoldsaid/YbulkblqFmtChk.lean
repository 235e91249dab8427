import Derived.Test.YbulkblqFmtOut
namespace Go.Proofs.YbulkblqFmt
open Go.RowKit Go.Extern.Stop Go.Stop Go.Extern
open Go.WideShapes (add_plain)
attribute [local go_sem] Oper.semAt_some
set_option linter.unusedSimpArgs false

set_option maxRecDepth 100000 in
set_option maxHeartbeats 8000000 in
/-- 'checkPointers'. -/
theorem chk_walk (F : Interp) (ad ap : Option Addr) (nd cd m cp : Nat) (fixed : Int) (at_ : Nat → Nat) (fz of lf : Nat → Int) (w : World) (hF : F.answers w.tape) (hm : m ≤ 256) (hnd : nd ≤ 4096) (hz : ∀ j, 0 ≤ fz j ∧ fz j ≤ 255)
    (hD : m = 0 ∨ ∃ b o gp, ad = some ⟨b, o, none⟩ ∧ ap = some ⟨gp, 0, none⟩ ∧ nd ≤ cd ∧ ByteRow w b o (o + nd) fz ∧ PtrRow w gp m at_ ∧ ∀ i, i < m → at_ i + 3 < nd ∧ of i = word fz (o + at_ i) ∧ lf i = word fz (o + (at_ i + 2)))
    (hof : ∀ i, 0 ≤ of i ∧ of i ≤ 65535) (hlf : ∀ i, 0 ≤ lf i ∧ lf i ≤ 65535) :
    Calls Ybaf.prog 9 #[.slice ad nd cd, .int .i64 fixed, .slice ap m cp] w fun e w' => (∃ txt, e = .returned (.tuple #[.string (ruleOf of lf m fixed nd), .string txt])) ∧ Below w.heap.size w w' := by
  have HD : Hid (m = 0 ∨ ∃ b o gp, ad = some ⟨b, o, none⟩ ∧ ap = some ⟨gp, 0, none⟩ ∧ nd ≤ cd ∧ ByteRow w b o (o + nd) fz ∧ PtrRow w gp m at_ ∧ ∀ i, i < m → at_ i + 3 < nd ∧ of i = word fz (o + at_ i) ∧ lf i = word fz (o + (at_ i + 2))) := hD
  have Hz : Hid (∀ j, 0 ≤ fz j ∧ fz j ≤ 255) := hz
  have Hof : Hid (∀ i, 0 ≤ of i ∧ of i ≤ 65535) := hof
  have Hlf : Hid (∀ i, 0 ≤ lf i ∧ lf i ≤ 65535) := hlf
  clear hD hz hof hlf
  refine (callsIn_wide (n := 3)).1 (callsIn_of_wp_marks Ybaf.func9 rfl trivial (wpIn_wide.2 ?_) rfl)
  simp only [Ybaf.ntmps9, List.size_toArray, List.length_cons, List.length_nil, Nat.reduceAdd, Nat.reduceSub, Array.replicate_succ, Array.replicate_zero, List.push_toArray, List.append_toArray, List.nil_append, List.cons_append]
  go_wp2_with (fail)
  have HC0 := ck_new w ap m cp of lf
  unfold few8 at HC0
  go_loopw [27] (fun i w' => ∃ k g cap : Nat, k ≤ m ∧ i = .int .i64 k ∧ CK w w' ap m cp of lf g cap k) (fun i _ => m - (intOf i).toNat)
  case atStart => exact ⟨0, _, _, Nat.zero_le _, rfl, HC0⟩
  case round =>
    clear HC0
    obtain ⟨k, g, cap, hk, rfl, hC⟩ := hrel
    have HC : Hid (CK w wr ap m cp of lf g cap k) := hC
    by_cases hlt : k < m
    · have hkn : (k : Int) < (m : Int) := by omega
      obtain ⟨b, o, gp, rfl, rfl, hcd, hrow, hptr, hofs⟩ := HD.out.resolve_left (by omega)
      obtain ⟨q0, q1⟩ := (hptr.below hC.bel).2 k hlt
      have gpl : gp < wr.heap.size := (hptr.below hC.bel).1
      obtain ⟨h3, h4, h5⟩ := hofs k hlt
      have H4 : Hid (word fz (o + at_ k) = of k) := h4.symm
      have H5 : Hid (word fz (o + (at_ k + 2)) = lf k) := h5.symm
      have Hrow : Hid (ByteRow (wr.alloc (.cells #[.string vS, .int .i64 (at_ k : Nat)] 28)).drew b o (o + nd) fz) := (hrow.below hC.bel).alloc _
      have c9 := hC.c9
      have f9 := hC.f9
      have s9 := hC.sz
      clear hC h4 h5 hofs hrow hptr
      go_wp2_with (fail)
      refine wp_region_noPanic ?_
      go_region_law (first
        | (refine step_append_v rfl (.tmp 31) (.tmp 36) rfl g cap k of lf rfl hvs ⟨w1.heap.size, 0, none⟩ 1 rfl (pair_cells _ _ _ _) (by omega) ?_; intro g' cap' w2 hv2 hg2 hor; have k9 := (after9 HC.out hB2 hg2).1; have z9 := (after9 HC.out hB2 hg2).2)
        | (go_simp; go_at_call 14; refine (read_walk b o nd cd (at_ k) fz _ Hrow.out Hz.out (by omega) hnd hcd).mono ?_; rintro e w1 ⟨rfl, hb1⟩; rw [H4.out, H5.out]; have hB1 := befor1 (wr := wr) hb1; have hB2 := hB1.alloc hB1.size (.cells #[.int .i64 (of k), .int .i64 (lf k)] 56); have hvs := HC.out.vs.below hB2 HC.out.vs.lt; have c91 := (HC.out.below hB1).c9; have s91 := (HC.out.below hB1).sz; dsimp only))
      all_goals
        refine NoPanic.normal ?_
        go_wp2_with (fail)
        go_roundw
        case rel => exact ⟨k + 1, g', cap', by omega, by go_num, HC.out.next hB2 hv2 hg2 hor⟩
        case measure => simp [intOf]; omega
    · obtain rfl : k = m := by omega
      have c9 := hC.c9
      have sz := hC.sz
      clear hC hlt
      go_wp2_with (fail)
      clear c9 sz
      go_loopw [41] (fun i w' => ∃ k1 : Nat, k1 ≤ k ∧ i = .int .i64 k1 ∧ CK w w' ap k cp of lf g cap k ∧ anyUpto (p1 of fixed) k1 = false) (fun i _ => k - (intOf i).toNat)
      case atStart => exact ⟨0, Nat.zero_le _, rfl, HC.out, rfl⟩
      case round =>
        clear HC
        obtain ⟨k1, hk1, rfl, hC, hn1⟩ := hrel
        have HC : Hid (CK w wr ap k cp of lf g cap k) := hC
        have N1 : Hid (anyUpto (p1 of fixed) k1 = false) := hn1
        by_cases hlt : k1 < k
        · have hkn : (k1 : Int) < (k : Int) := by omega
          obtain ⟨c0, c1⟩ := hC.vs.v k1 hlt
          have glt := hC.vs.lt
          have HC1 : Hid (CK w (wr.alloc (.cells #[.int .i64 (of k1), .int .i64 (lf k1)] 56)) ap k cp of lf g cap k) := hC.below ((Below.refl _ _).alloc (Nat.le_refl _) _)
          by_cases h0 : of k1 = 0
          · have h0' : (of k1 != 0) = false := by simp [h0]
            have P : Hid (p1 of fixed k1 = false) := by show _ = _; simp [p1, h0]
            clear hC hn1 h0
            go_wp2
            go_roundw
            case rel => exact ⟨k1 + 1, by omega, by go_num, HC1.out, anyUpto_keep N1.out P.out⟩
            case measure => simp [intOf]; omega
          · have h0' : (of k1 != 0) = true := by simp [h0]
            by_cases h1 : of k1 < fixed
            · have P : Hid (p1 of fixed k1 = true) := by show _ = _; simp [p1, h0, h1]
              obtain ⟨b, o, gp, rfl, rfl, -, -, hptr, -⟩ := HD.out.resolve_left (by omega)
              have q0 := ((hptr.below hC.bel).2 k1 hlt).1
              have gpl : gp < wr.heap.size := (hptr.below hC.bel).1
              have gp0 := hptr.1
              have gp1 : ¬ w.heap.size + 1 = gp := by omega
              have gp2 : ¬ w.heap.size + 1 + 1 = gp := by omega
              have gp3 : gp < wr.heap.size + 1 := by omega
              have HB : Hid (Below w.heap.size w wr) := hC.bel
              have c5 := hC.c5
              have c6 := hC.c6
              have c7 := hC.c7
              have f6 := hC.f6
              have f7 := hC.f7
              have sz := hC.sz
              have s5 : w.heap.size < wr.heap.size := by omega
              have s6 : w.heap.size + 1 < wr.heap.size := by omega
              have s7 : w.heap.size + 1 + 1 < wr.heap.size := by omega
              have hFr : F.answers wr.tape := by rw [hC.bel.tape]; exact hF
              have hF' := answers_open hFr
              clear hC hn1 hptr
              go_wp2_with (fail)
              refine wp_region_noPanic ?_
              go_region_held3 (fun w' => w'.cell? ⟨w.heap.size, 0, none⟩ = some (.slice (some ⟨gp, 0, none⟩) k cp) ∧ w'.cell? ⟨gp, k1 * 2, none⟩ = some (.string vS) ∧ w'.cell? ⟨wr.heap.size, 0, none⟩ = some (.int .i64 (of k1))) (simp [go_sem, *])
                (first
                  | (apply rows_value Ybaf.nextTurns; (case hr => (go_simp; exact ⟨rfl, rfl⟩))))
              refine NoPanic.normal ?_
              go_wp2_with (fail)
              exact ret0 _ HC.out _ _ _ _ _ rfl rfl (fun W' hb => ⟨⟨_, by rw [rule1 hlt P.out]; rfl⟩, hb⟩)
            · have P : Hid (p1 of fixed k1 = false) := by show _ = _; simp [p1, h1]
              clear hC hn1
              go_wp2
              go_roundw
              case rel => exact ⟨k1 + 1, by omega, by go_num, HC1.out, anyUpto_keep N1.out P.out⟩
              case measure => simp [intOf]; omega
        · obtain rfl : k1 = k := by omega
          have c9 := hC.c9
          clear hC hlt hn1
          go_wp2_with (fail)
          clear c9
          go_loopw [71] (fun i w' => ∃ k2 : Nat, k2 ≤ k1 ∧ i = .int .i64 k2 ∧ CK w w' ap k1 cp of lf g cap k1 ∧ anyUpto (p2 of lf nd) k2 = false) (fun i _ => k1 - (intOf i).toNat)
          case atStart => exact ⟨0, Nat.zero_le _, rfl, HC.out, rfl⟩
          case round =>
            clear HC
            obtain ⟨k2, hk2, rfl, hC, hn2⟩ := hrel
            have HC : Hid (CK w wr ap k1 cp of lf g cap k1) := hC
            have N2 : Hid (anyUpto (p2 of lf nd) k2 = false) := hn2
            by_cases hlt : k2 < k1
            · have hkn : (k2 : Int) < (k1 : Int) := by omega
              obtain ⟨c0, c1⟩ := hC.vs.v k2 hlt
              have glt := hC.vs.lt
              have HC1 : Hid (CK w (wr.alloc (.cells #[.int .i64 (of k2), .int .i64 (lf k2)] 56)) ap k1 cp of lf g cap k1) := hC.below ((Below.refl _ _).alloc (Nat.le_refl _) _)
              have HC2 : Hid (CK w ((wr.alloc (.cells #[.int .i64 (of k2), .int .i64 (lf k2)] 56)).alloc (.cells #[.int .i64 (of k2), .int .i64 (lf k2)] 56)) ap k1 cp of lf g cap k1) := HC1.out.below ((Below.refl _ _).alloc (Nat.le_refl _) _)
              by_cases h0 : of k2 = 0
              · have h0' : (of k2 != 0) = false := by simp [h0]
                have P : Hid (p2 of lf nd k2 = false) := by show _ = _; simp [p2, h0]
                clear hC hn2 h0
                go_wp2
                go_roundw
                case rel => exact ⟨k2 + 1, by omega, by go_num, HC1.out, anyUpto_keep N2.out P.out⟩
                case measure => simp [intOf]; omega
              · have h0' : (of k2 != 0) = true := by simp [h0]
                by_cases h1 : (nd : Int) < of k2 + lf k2
                · have P : Hid (p2 of lf nd k2 = true) := by show _ = _; simp [p2, h0, h1]
                  obtain ⟨b, o, gp, rfl, rfl, -, -, hptr, -⟩ := HD.out.resolve_left (by omega)
                  have q0 := ((hptr.below hC.bel).2 k2 hlt).1
                  have gpl : gp < wr.heap.size := (hptr.below hC.bel).1
                  have gp0 := hptr.1
                  have gp1 : ¬ w.heap.size + 1 = gp := by omega
                  have gp2 : ¬ w.heap.size + 1 + 1 = gp := by omega
                  have gp3 : gp < wr.heap.size + 1 := by omega
                  have gp4 : gp < wr.heap.size + 1 + 1 := by omega
                  have c5 := hC.c5
                  have c6 := hC.c6
                  have c7 := hC.c7
                  have f6 := hC.f6
                  have f7 := hC.f7
                  have sz := hC.sz
                  have s5 : w.heap.size < wr.heap.size := by omega
                  have s6 : w.heap.size + 1 < wr.heap.size := by omega
                  have s7 : w.heap.size + 1 + 1 < wr.heap.size := by omega
                  have t5 : w.heap.size < wr.heap.size + 1 := by omega
                  have t6 : w.heap.size + 1 < wr.heap.size + 1 := by omega
                  have t7 : w.heap.size + 1 + 1 < wr.heap.size + 1 := by omega
                  have hFr : F.answers wr.tape := by rw [hC.bel.tape]; exact hF
                  have hF' := answers_open hFr
                  clear hC hn2 hptr
                  go_wp2_with (fail)
                  refine (end_walk (of k2) (lf k2) _ (Hof.out k2) (Hlf.out k2)).mono ?_
                  rintro e w1 ⟨rfl, rfl⟩
                  go_wp2_with (fail)
                  refine wp_region_noPanic ?_
                  go_region_held3 (fun w' => w'.cell? ⟨w.heap.size, 0, none⟩ = some (.slice (some ⟨gp, 0, none⟩) k1 cp) ∧ w'.cell? ⟨gp, k2 * 2, none⟩ = some (.string vS) ∧ w'.cell? ⟨wr.heap.size, 0, none⟩ = some (.int .i64 (of k2)) ∧ w'.cell? ⟨wr.heap.size, 1, none⟩ = some (.int .i64 (lf k2))) (simp [go_sem, *])
                    (first
                      | (apply rows_value Ybaf.nextTurns; (case hr => (go_simp; exact ⟨rfl, rfl⟩))))
                  refine NoPanic.normal ?_
                  go_wp2_with (fail)
                  exact ret0b _ HC.out _ _ _ _ _ _ rfl rfl (fun W' hb => ⟨⟨_, by rw [rule2 N1.out hlt P.out]; rfl⟩, hb⟩)
                · have P : Hid (p2 of lf nd k2 = false) := by show _ = _; simp [p2, h1]
                  clear hC hn2
                  go_wp2_with (fail)
                  refine (end_walk (of k2) (lf k2) _ (Hof.out k2) (Hlf.out k2)).mono ?_
                  rintro e w1 ⟨rfl, rfl⟩
                  go_wp2
                  go_roundw
                  case rel => exact ⟨k2 + 1, by omega, by go_num, HC2.out, anyUpto_keep N2.out P.out⟩
                  case measure => simp [intOf]; omega
            · obtain rfl : k2 = k1 := by omega
              have c9 := hC.c9
              have s9 := hC.sz
              clear hC hlt hn2
              go_wp2_with (fail)
              refine (vio_walk _ _ _ _).mono ?_
              rintro e w1 ⟨rfl, rfl⟩
              go_wp2_with (fail)
              have HC' := HC.out
              have HV := HC'.vs
              refine (wpIn_wide (n := 3)).1 ?_
              obtain ⟨W0, hW0⟩ : ∃ W0, wr.alloc (.cells #[.slice (some ⟨g, 0, none⟩) k2 cap] 58) = W0 := ⟨_, rfl⟩
              have hs0 : W0.heap.size = wr.heap.size + 1 := by rw [← hW0]; simp
              have hC0 : CK w W0 ap k2 cp of lf g cap k2 := by rw [← hW0]; exact HC.out.below ((Below.refl _ _).alloc (Nat.le_refl _) _)
              have hcB : W0.cell? ⟨wr.heap.size, 0, none⟩ = some (.slice (some ⟨g, 0, none⟩) k2 cap) := by rw [← hW0]; simp [go_sem]
              rw [hW0]
              refine wpIn_rangeFunc_ownF rfl (by omega) (gf := 22) (lb := #[.pointer (some ⟨wr.heap.size, 0, none⟩)]) rfl trivial (enters_of Ybaf.func22 (by kernel_rfl) rfl)
                (iter_stops (3 - 1) wr.heap.size W0.heap.size g k2 cap of lf hm hC0.vs.lt W0 (by omega) (Nat.le_refl _) hcB hC0.vs.v) belowK_t (belowK_b (Nat.le_refl _)) (Below.refl _ _) (fun _ => rfl)
                (Going (q3 of) W0) (Gone (q3 of) w r3) (going_own _ _) (gone_own _ _ _ _ (by have := hC0.sz; omega))
                ⟨fun y hy => (by cases hy), Below.refl _ _⟩
                ?a1 ?assign ?body ?done ?stop
              case assign =>
                intro l x W K hK
                simp only [encP]
                gi_wp2
                exact hK
              case body =>
                rintro l pre x W hIW hlen
                obtain ⟨hpre, hBW⟩ := hIW
                have Hs0 : Hid (W0.heap.size = wr.heap.size + 1) := hs0
                clear hs0
                have HCW : Hid (CK w W ap k2 cp of lf g cap k2) := hC0.below hBW
                have Hpre : Hid (∀ y ∈ pre, ¬ q3 of y) := hpre
                have HBW : Hid (Below W0.heap.size W0 W) := hBW
                have HB2 : Hid (∀ a b : Obj, Below W0.heap.size W ((W.alloc a).alloc b).drew) := fun a b => (((Below.refl _ _).alloc hBW.size a).alloc (by have := hBW.size; simp; omega) b).drew
                clear hpre hBW
                obtain ⟨⟨i, p⟩, hi, hp⟩ := x
                simp only at hi hp ⊢
                have c9 := HCW.out.c9
                have ci := HCW.out.vs.v i hi
                have cp' := HCW.out.vs.v p hp
                obtain ⟨ci0, ci1⟩ := ci
                obtain ⟨cp0, cp1⟩ := cp'
                have hgW := HCW.out.vs.lt
                have h9W := HCW.out.sz
                have hgW1 : g < W.heap.size + 1 := by omega
                have hgW2 : g < W.heap.size + 1 + 1 := by omega
                have h9W1 : w.heap.size + 1 + 1 + 1 + 1 < W.heap.size + 1 := by omega
                have h9W2 : w.heap.size + 1 + 1 + 1 + 1 < W.heap.size + 1 + 1 := by omega
                have hiN : (i : Int) < (k2 : Int) := by omega
                have hpN : (p : Int) < (k2 : Int) := by omega
                by_cases hx : of i < of p
                · obtain ⟨b, o, gp, rfl, rfl, -, -, hptr, -⟩ := HD.out.resolve_left (by omega)
                  have q0 := ((hptr.below HCW.out.bel).2 i hi).1
                  have q1 := ((hptr.below HCW.out.bel).2 p hp).1
                  have gpl : gp < W.heap.size := (hptr.below HCW.out.bel).1
                  have gp0 := hptr.1
                  have gp1 : ¬ w.heap.size + 1 = gp := by omega
                  have gp2 : ¬ w.heap.size + 1 + 1 = gp := by omega
                  have gp3 : gp < W.heap.size + 1 := by omega
                  have gp4 : gp < W.heap.size + 1 + 1 := by omega
                  have c5 := HCW.out.c5
                  have c6 := HCW.out.c6
                  have c7 := HCW.out.c7
                  have f6 := HCW.out.f6
                  have f7 := HCW.out.f7
                  have s5 : w.heap.size < W.heap.size := by omega
                  have s6 : w.heap.size + 1 < W.heap.size := by omega
                  have s7 : w.heap.size + 1 + 1 < W.heap.size := by omega
                  have t5 : w.heap.size < W.heap.size + 1 := by omega
                  have t6 : w.heap.size + 1 < W.heap.size + 1 := by omega
                  have t7 : w.heap.size + 1 + 1 < W.heap.size + 1 := by omega
                  have u5 : w.heap.size < W.heap.size + 1 + 1 := by omega
                  have u6 : w.heap.size + 1 < W.heap.size + 1 + 1 := by omega
                  have u7 : w.heap.size + 1 + 1 < W.heap.size + 1 + 1 := by omega
                  have hFr : F.answers W.tape := by rw [HCW.out.bel.tape]; exact hF
                  have hF' := answers_open hFr
                  clear hptr
                  gi_wp2_with (fail)
                  refine region_round (S := fun w' : World => w'.cell? ⟨w.heap.size + 1 + 1 + 1 + 1, 0, none⟩ = some (.slice (some ⟨g, 0, none⟩) k2 cap) ∧ w'.cell? ⟨g, i * 2, none⟩ = some (.int .i64 (of i)) ∧ w'.cell? ⟨g, i * 2 + 1, none⟩ = some (.int .i64 (lf i)) ∧ w'.cell? ⟨g, p * 2, none⟩ = some (.int .i64 (of p)) ∧ w'.cell? ⟨g, p * 2 + 1, none⟩ = some (.int .i64 (lf p))) (by kernel_rfl) (by rintro ⟨_, _, h⟩; exact h) (by kernel_rfl) ?_
                  have hS : (fun w' : World => w'.cell? ⟨w.heap.size + 1 + 1 + 1 + 1, 0, none⟩ = some (.slice (some ⟨g, 0, none⟩) k2 cap) ∧ w'.cell? ⟨g, i * 2, none⟩ = some (.int .i64 (of i)) ∧ w'.cell? ⟨g, i * 2 + 1, none⟩ = some (.int .i64 (lf i)) ∧ w'.cell? ⟨g, p * 2, none⟩ = some (.int .i64 (of p)) ∧ w'.cell? ⟨g, p * 2 + 1, none⟩ = some (.int .i64 (lf p))) W.drew := ⟨c9, ci0, ci1, cp0, cp1⟩
                  refine wpAnyH_take (i := 0) (v := ?_) rfl (by kernel_rfl) (by kernel_rfl) (by kernel_rfl) (fun _ _ _ h => h) (Or.inl ⟨by rfl, ?_⟩) hS ?_
                  rotate_left
                  · (intro w hSw; (try dsimp only at hSw); go_simp; (try with_reducible rfl))
                  simp only [List.getElem_toArray, List.getElem_cons_zero, List.getElem_cons_succ, Act.put, List.setIfInBounds_toArray, List.set_cons_zero, List.set_cons_succ]
                  refine wpAnyH_take (i := 1) (v := ?_) rfl (by kernel_rfl) (by kernel_rfl) (by kernel_rfl) (fun _ _ _ h => h) (Or.inl ⟨by rfl, ?_⟩) hS ?_
                  rotate_left
                  · (intro w hSw; (try dsimp only at hSw); go_simp; (try with_reducible rfl))
                  simp only [List.getElem_toArray, List.getElem_cons_zero, List.getElem_cons_succ, Act.put, List.setIfInBounds_toArray, List.set_cons_zero, List.set_cons_succ]
                  refine wpAnyH_take (i := 2) (v := ?_) rfl (by kernel_rfl) (by kernel_rfl) (by kernel_rfl) (fun _ _ _ h => h) (Or.inl ⟨by rfl, ?_⟩) hS ?_
                  rotate_left
                  · (intro w hSw; (try dsimp only at hSw); go_simp; (try with_reducible rfl))
                  simp only [List.getElem_toArray, List.getElem_cons_zero, List.getElem_cons_succ, Act.put, List.setIfInBounds_toArray, List.set_cons_zero, List.set_cons_succ]
                  refine wpAnyH_take (i := 3) (v := ?_) rfl (by kernel_rfl) (by kernel_rfl) (by kernel_rfl) (fun _ _ _ h => h) (Or.inl ⟨by rfl, ?_⟩) hS ?_
                  rotate_left
                  · (intro w hSw; (try dsimp only at hSw); go_simp; (try with_reducible rfl))
                  simp only [List.getElem_toArray, List.getElem_cons_zero, List.getElem_cons_succ, Act.put, List.setIfInBounds_toArray, List.set_cons_zero, List.set_cons_succ]
                  refine wpAnyH_take (i := 4) (v := ?_) rfl (by kernel_rfl) (by kernel_rfl) (by kernel_rfl) (fun _ _ _ h => h) (Or.inl ⟨by rfl, ?_⟩) hS ?_
                  rotate_left
                  · (intro w hSw; (try dsimp only at hSw); go_simp; (try with_reducible rfl))
                  simp only [List.getElem_toArray, List.getElem_cons_zero, List.getElem_cons_succ, Act.put, List.setIfInBounds_toArray, List.set_cons_zero, List.set_cons_succ]
                  refine wpAnyH_take (i := 5) (v := ?_) rfl (by kernel_rfl) (by kernel_rfl) (by kernel_rfl) (fun _ _ _ h => h) (Or.inl ⟨by rfl, ?_⟩) hS ?_
                  rotate_left
                  · (intro w hSw; (try dsimp only at hSw); go_simp; (try with_reducible rfl))
                  simp only [List.getElem_toArray, List.getElem_cons_zero, List.getElem_cons_succ, Act.put, List.setIfInBounds_toArray, List.set_cons_zero, List.set_cons_succ]
                  refine wpAnyH_take (i := 6) (v := ?_) rfl (by kernel_rfl) (by kernel_rfl) (by kernel_rfl) (fun _ _ _ h => h) (Or.inl ⟨by rfl, ?_⟩) hS ?_
                  rotate_left
                  · (intro w hSw; (try dsimp only at hSw); go_simp; (try with_reducible rfl))
                  simp only [List.getElem_toArray, List.getElem_cons_zero, List.getElem_cons_succ, Act.put, List.setIfInBounds_toArray, List.set_cons_zero, List.set_cons_succ]
                  refine wpAnyH_take (i := 7) (v := ?_) rfl (by kernel_rfl) (by kernel_rfl) (by kernel_rfl) (fun _ _ _ h => h) (Or.inl ⟨by rfl, ?_⟩) hS ?_
                  rotate_left
                  · (intro w hSw; (try dsimp only at hSw); go_simp; (try with_reducible rfl))
                  simp only [List.getElem_toArray, List.getElem_cons_zero, List.getElem_cons_succ, Act.put, List.setIfInBounds_toArray, List.set_cons_zero, List.set_cons_succ]
                  refine wpAnyH_ready (rs := [8, 9]) (by kernel_rfl) (by simp) ?_
                  refine AllReadyH.cons rfl (fun K hK => ?_) (AllReadyH.cons rfl (fun K hK => ?_) AllReadyH.nil)
                  · go_simp
                    refine hK.out _ _ ?_ (fun hS => ?_)
                    · (simp [go_sem, *])
                    clear hK K
                    refine wpAnyH_ready (rs := [9]) (by kernel_rfl) (by simp) ?_
                    refine AllReadyH.cons rfl (fun K hK => ?_) AllReadyH.nil
                    go_simp
                    refine hK.out _ _ ?_ (fun hS => ?_)
                    · (simp [go_sem, *])
                    clear hK K
                    refine wpAnyH_ready (rs := [10]) (by kernel_rfl) (by simp) ?_
                    refine AllReadyH.cons rfl (fun K hK => ?_) AllReadyH.nil
                    go_simp
                    refine hK.out _ _ ?_ (fun hS => ?_)
                    · (simp [go_sem, *])
                    clear hK K
                    refine wpAnyH_ready (rs := [11]) (by kernel_rfl) (by simp) ?_
                    refine AllReadyH.cons rfl (fun K hK => ?_) AllReadyH.nil
                    go_simp
                    refine hK.out _ _ ?_ (fun hS => ?_)
                    · (simp [go_sem, *])
                    clear hK K
                    refine wpAnyH_done (by kernel_rfl) ?_ _
                    clear hS
                    gi_wp2_with (fail)
                    refine region_round (S := fun w' : World => w'.cell? ⟨w.heap.size, 0, none⟩ = some (.slice (some ⟨gp, 0, none⟩) k2 cp) ∧ w'.cell? ⟨gp, i * 2, none⟩ = some (.string vS) ∧ w'.cell? ⟨gp, p * 2, none⟩ = some (.string vS) ∧ w'.cell? ⟨W.heap.size, 0, none⟩ = some (.int .i64 (of i)) ∧ w'.cell? ⟨W.heap.size + 1, 0, none⟩ = some (.int .i64 (of p))) (by kernel_rfl) (by rintro ⟨_, _, h⟩; exact h) (by kernel_rfl) ?_
                    have hS : (fun w' : World => w'.cell? ⟨w.heap.size, 0, none⟩ = some (.slice (some ⟨gp, 0, none⟩) k2 cp) ∧ w'.cell? ⟨gp, i * 2, none⟩ = some (.string vS) ∧ w'.cell? ⟨gp, p * 2, none⟩ = some (.string vS) ∧ w'.cell? ⟨W.heap.size, 0, none⟩ = some (.int .i64 (of i)) ∧ w'.cell? ⟨W.heap.size + 1, 0, none⟩ = some (.int .i64 (of p))) (((W.alloc (.cells #[.int .i64 (of i), .int .i64 (lf i)] 56)).alloc (.cells #[.int .i64 (of p), .int .i64 (lf p)] 56)).drew).drew := by simp [go_sem, *]
                    refine wpAnyH_take (i := 0) (v := ?_) rfl (by kernel_rfl) (by kernel_rfl) (by kernel_rfl) (fun _ _ _ h => h) (Or.inl ⟨by rfl, ?_⟩) hS ?_
                    rotate_left
                    · (intro w hSw; (try dsimp only at hSw); go_simp; (try with_reducible rfl))
                    simp only [List.getElem_toArray, List.getElem_cons_zero, List.getElem_cons_succ, Act.put, List.setIfInBounds_toArray, List.set_cons_zero, List.set_cons_succ]
                    refine wpAnyH_take (i := 1) (v := ?_) rfl (by kernel_rfl) (by kernel_rfl) (by kernel_rfl) (fun _ _ _ h => h) (Or.inl ⟨by rfl, ?_⟩) hS ?_
                    rotate_left
                    · (intro w hSw; (try dsimp only at hSw); go_simp; (try with_reducible rfl))
                    simp only [List.getElem_toArray, List.getElem_cons_zero, List.getElem_cons_succ, Act.put, List.setIfInBounds_toArray, List.set_cons_zero, List.set_cons_succ]
                    refine wpAnyH_take (i := 2) (v := ?_) rfl (by kernel_rfl) (by kernel_rfl) (by kernel_rfl) (fun _ _ _ h => h) (Or.inl ⟨by rfl, ?_⟩) hS ?_
                    rotate_left
                    · (intro w hSw; (try dsimp only at hSw); go_simp; (try with_reducible rfl))
                    simp only [List.getElem_toArray, List.getElem_cons_zero, List.getElem_cons_succ, Act.put, List.setIfInBounds_toArray, List.set_cons_zero, List.set_cons_succ]
                    refine wpAnyH_take (i := 3) (v := ?_) rfl (by kernel_rfl) (by kernel_rfl) (by kernel_rfl) (fun _ _ _ h => h) (Or.inl ⟨by rfl, ?_⟩) hS ?_
                    rotate_left
                    · (intro w hSw; (try dsimp only at hSw); go_simp; (try with_reducible rfl))
                    simp only [List.getElem_toArray, List.getElem_cons_zero, List.getElem_cons_succ, Act.put, List.setIfInBounds_toArray, List.set_cons_zero, List.set_cons_succ]
                    refine wpAnyH_take (i := 4) (v := ?_) rfl (by kernel_rfl) (by kernel_rfl) (by kernel_rfl) (fun _ _ _ h => h) (Or.inl ⟨by rfl, ?_⟩) hS ?_
                    rotate_left
                    · (intro w hSw; (try dsimp only at hSw); go_simp; (try with_reducible rfl))
                    simp only [List.getElem_toArray, List.getElem_cons_zero, List.getElem_cons_succ, Act.put, List.setIfInBounds_toArray, List.set_cons_zero, List.set_cons_succ]
                    refine wpAnyH_take (i := 5) (v := ?_) rfl (by kernel_rfl) (by kernel_rfl) (by kernel_rfl) (fun _ _ _ h => h) (Or.inl ⟨by rfl, ?_⟩) hS ?_
                    rotate_left
                    · (intro w hSw; (try dsimp only at hSw); go_simp; (try with_reducible rfl))
                    simp only [List.getElem_toArray, List.getElem_cons_zero, List.getElem_cons_succ, Act.put, List.setIfInBounds_toArray, List.set_cons_zero, List.set_cons_succ]
                    refine wpAnyH_take (i := 6) (v := ?_) rfl (by kernel_rfl) (by kernel_rfl) (by kernel_rfl) (fun _ _ _ h => h) (Or.inl ⟨by rfl, ?_⟩) hS ?_
                    rotate_left
                    · (intro w hSw; (try dsimp only at hSw); go_simp; (try with_reducible rfl))
                    simp only [List.getElem_toArray, List.getElem_cons_zero, List.getElem_cons_succ, Act.put, List.setIfInBounds_toArray, List.set_cons_zero, List.set_cons_succ]
                    refine wpAnyH_take (i := 7) (v := ?_) rfl (by kernel_rfl) (by kernel_rfl) (by kernel_rfl) (fun _ _ _ h => h) (Or.inl ⟨by rfl, ?_⟩) hS ?_
                    rotate_left
                    · (intro w hSw; (try dsimp only at hSw); go_simp; (try with_reducible rfl))
                    simp only [List.getElem_toArray, List.getElem_cons_zero, List.getElem_cons_succ, Act.put, List.setIfInBounds_toArray, List.set_cons_zero, List.set_cons_succ]
                    refine wpAnyH_take (i := 8) (v := ?_) rfl (by kernel_rfl) (by kernel_rfl) (by kernel_rfl) (fun _ _ _ h => h) (Or.inl ⟨by rfl, ?_⟩) hS ?_
                    rotate_left
                    · (intro w hSw; (try dsimp only at hSw); go_simp; (try with_reducible rfl))
                    simp only [List.getElem_toArray, List.getElem_cons_zero, List.getElem_cons_succ, Act.put, List.setIfInBounds_toArray, List.set_cons_zero, List.set_cons_succ]
                    refine wpAnyH_take (i := 9) (v := ?_) rfl (by kernel_rfl) (by kernel_rfl) (by kernel_rfl) (fun _ _ _ h => h) (Or.inl ⟨by rfl, ?_⟩) hS ?_
                    rotate_left
                    · (intro w hSw; (try dsimp only at hSw); go_simp; (try with_reducible rfl))
                    simp only [List.getElem_toArray, List.getElem_cons_zero, List.getElem_cons_succ, Act.put, List.setIfInBounds_toArray, List.set_cons_zero, List.set_cons_succ]
                    refine wpAnyH_take (i := 10) (v := ?_) rfl (by kernel_rfl) (by kernel_rfl) (by kernel_rfl) (fun _ _ _ h => h) (Or.inl ⟨by rfl, ?_⟩) hS ?_
                    rotate_left
                    · (intro w hSw; (try dsimp only at hSw); go_simp; (try with_reducible rfl))
                    simp only [List.getElem_toArray, List.getElem_cons_zero, List.getElem_cons_succ, Act.put, List.setIfInBounds_toArray, List.set_cons_zero, List.set_cons_succ]
                    refine wpAnyH_take (i := 11) (v := ?_) rfl (by kernel_rfl) (by kernel_rfl) (by kernel_rfl) (fun _ _ _ h => h) (Or.inl ⟨by rfl, ?_⟩) hS ?_
                    rotate_left
                    · (intro w hSw; (try dsimp only at hSw); go_simp; (try with_reducible rfl))
                    simp only [List.getElem_toArray, List.getElem_cons_zero, List.getElem_cons_succ, Act.put, List.setIfInBounds_toArray, List.set_cons_zero, List.set_cons_succ]
                    refine wpAnyH_take (i := 12) (v := ?_) rfl (by kernel_rfl) (by kernel_rfl) (by kernel_rfl) (fun _ _ _ h => h) (Or.inl ⟨by rfl, ?_⟩) hS ?_
                    rotate_left
                    · (intro w hSw; (try dsimp only at hSw); go_simp; (try with_reducible rfl))
                    simp only [List.getElem_toArray, List.getElem_cons_zero, List.getElem_cons_succ, Act.put, List.setIfInBounds_toArray, List.set_cons_zero, List.set_cons_succ]
                    refine wpAnyH_take (i := 13) (v := ?_) rfl (by kernel_rfl) (by kernel_rfl) (by kernel_rfl) (fun _ _ _ h => h) (Or.inl ⟨by rfl, ?_⟩) hS ?_
                    rotate_left
                    · (intro w hSw; (try dsimp only at hSw); go_simp; (try with_reducible rfl))
                    simp only [List.getElem_toArray, List.getElem_cons_zero, List.getElem_cons_succ, Act.put, List.setIfInBounds_toArray, List.set_cons_zero, List.set_cons_succ]
                    refine wpAnyH_take (i := 14) (v := ?_) rfl (by kernel_rfl) (by kernel_rfl) (by kernel_rfl) (fun _ _ _ h => h) (Or.inl ⟨by rfl, ?_⟩) hS ?_
                    rotate_left
                    · (intro w hSw; (try dsimp only at hSw); go_simp; (try with_reducible rfl))
                    simp only [List.getElem_toArray, List.getElem_cons_zero, List.getElem_cons_succ, Act.put, List.setIfInBounds_toArray, List.set_cons_zero, List.set_cons_succ]
                    refine wpAnyH_take (i := 15) (v := ?_) rfl (by kernel_rfl) (by kernel_rfl) (by kernel_rfl) (fun _ _ _ h => h) (Or.inl ⟨by rfl, ?_⟩) hS ?_
                    rotate_left
                    · (intro w hSw; (try dsimp only at hSw); go_simp; (try with_reducible rfl))
                    simp only [List.getElem_toArray, List.getElem_cons_zero, List.getElem_cons_succ, Act.put, List.setIfInBounds_toArray, List.set_cons_zero, List.set_cons_succ]
                    refine wpAnyH_take (i := 16) (v := ?_) rfl (by kernel_rfl) (by kernel_rfl) (by kernel_rfl) (fun _ _ _ h => h) (Or.inl ⟨by rfl, ?_⟩) hS ?_
                    rotate_left
                    · (intro w hSw; (try dsimp only at hSw); go_simp; (try with_reducible rfl))
                    simp only [List.getElem_toArray, List.getElem_cons_zero, List.getElem_cons_succ, Act.put, List.setIfInBounds_toArray, List.set_cons_zero, List.set_cons_succ]
                    refine wpAnyH_take (i := 17) (v := ?_) rfl (by kernel_rfl) (by kernel_rfl) (by kernel_rfl) (fun _ _ _ h => h) (Or.inl ⟨by rfl, ?_⟩) hS ?_
                    rotate_left
                    · (intro w hSw; (try dsimp only at hSw); go_simp; (try with_reducible rfl))
                    simp only [List.getElem_toArray, List.getElem_cons_zero, List.getElem_cons_succ, Act.put, List.setIfInBounds_toArray, List.set_cons_zero, List.set_cons_succ]
                    refine wpAnyH_ready (rs := [18]) (by kernel_rfl) (by simp) ?_
                    refine AllReadyH.cons rfl (fun K hK => ?_) AllReadyH.nil
                    go_simp
                    refine hK.out _ _ ?_ (fun hS => ?_)
                    · (simp [go_sem, *])
                    clear hK K
                    refine wpAnyH_ready (rs := [19]) (by kernel_rfl) (by simp) ?_
                    refine AllReadyH.cons rfl (fun K hK => ?_) AllReadyH.nil
                    go_simp
                    apply rows_value Ybaf.nextTurns
                    case hr => (go_simp; exact ⟨rfl, rfl⟩)
                    refine hK.out _ _ ?_ (fun hS => ?_)
                    · (simp [go_sem, *])
                    clear hK K
                    refine wpAnyH_ready (rs := [20]) (by kernel_rfl) (by simp) ?_
                    refine AllReadyH.cons rfl (fun K hK => ?_) AllReadyH.nil
                    go_simp
                    refine hK.out _ _ ?_ (fun hS => ?_)
                    · (simp [go_sem, *])
                    clear hK K
                    refine wpAnyH_ready (rs := [21]) (by kernel_rfl) (by simp) ?_
                    refine AllReadyH.cons rfl (fun K hK => ?_) AllReadyH.nil
                    go_simp
                    refine hK.out _ _ ?_ (fun hS => ?_)
                    · (simp [go_sem, *])
                    clear hK K
                    refine wpAnyH_done (by kernel_rfl) ?_ _
                    clear hS
                    gi_wp2_with (fail)
                    exact gone_out HCW.out _ _ _ _ _ ⟨_, List.mem_append_right _ (List.mem_singleton.2 rfl), hx⟩
                  · go_simp
                    refine hK.out _ _ ?_ (fun hS => ?_)
                    · (simp [go_sem, *])
                    clear hK K
                    refine wpAnyH_ready (rs := [8]) (by kernel_rfl) (by simp) ?_
                    refine AllReadyH.cons rfl (fun K hK => ?_) AllReadyH.nil
                    go_simp
                    refine hK.out _ _ ?_ (fun hS => ?_)
                    · (simp [go_sem, *])
                    clear hK K
                    refine wpAnyH_ready (rs := [10]) (by kernel_rfl) (by simp) ?_
                    refine AllReadyH.cons rfl (fun K hK => ?_) AllReadyH.nil
                    go_simp
                    refine hK.out _ _ ?_ (fun hS => ?_)
                    · (simp [go_sem, *])
                    clear hK K
                    refine wpAnyH_ready (rs := [11]) (by kernel_rfl) (by simp) ?_
                    refine AllReadyH.cons rfl (fun K hK => ?_) AllReadyH.nil
                    go_simp
                    refine hK.out _ _ ?_ (fun hS => ?_)
                    · (simp [go_sem, *])
                    clear hK K
                    refine wpAnyH_done (by kernel_rfl) ?_ _
                    clear hS
                    gi_wp2_with (fail)
                    refine region_round (S := fun w' : World => w'.cell? ⟨w.heap.size, 0, none⟩ = some (.slice (some ⟨gp, 0, none⟩) k2 cp) ∧ w'.cell? ⟨gp, i * 2, none⟩ = some (.string vS) ∧ w'.cell? ⟨gp, p * 2, none⟩ = some (.string vS) ∧ w'.cell? ⟨W.heap.size + 1, 0, none⟩ = some (.int .i64 (of i)) ∧ w'.cell? ⟨W.heap.size, 0, none⟩ = some (.int .i64 (of p))) (by kernel_rfl) (by rintro ⟨_, _, h⟩; exact h) (by kernel_rfl) ?_
                    have hS : (fun w' : World => w'.cell? ⟨w.heap.size, 0, none⟩ = some (.slice (some ⟨gp, 0, none⟩) k2 cp) ∧ w'.cell? ⟨gp, i * 2, none⟩ = some (.string vS) ∧ w'.cell? ⟨gp, p * 2, none⟩ = some (.string vS) ∧ w'.cell? ⟨W.heap.size + 1, 0, none⟩ = some (.int .i64 (of i)) ∧ w'.cell? ⟨W.heap.size, 0, none⟩ = some (.int .i64 (of p))) (((W.alloc (.cells #[.int .i64 (of p), .int .i64 (lf p)] 56)).alloc (.cells #[.int .i64 (of i), .int .i64 (lf i)] 56)).drew).drew := by simp [go_sem, *]
                    refine wpAnyH_take (i := 0) (v := ?_) rfl (by kernel_rfl) (by kernel_rfl) (by kernel_rfl) (fun _ _ _ h => h) (Or.inl ⟨by rfl, ?_⟩) hS ?_
                    rotate_left
                    · (intro w hSw; (try dsimp only at hSw); go_simp; (try with_reducible rfl))
                    simp only [List.getElem_toArray, List.getElem_cons_zero, List.getElem_cons_succ, Act.put, List.setIfInBounds_toArray, List.set_cons_zero, List.set_cons_succ]
                    refine wpAnyH_take (i := 1) (v := ?_) rfl (by kernel_rfl) (by kernel_rfl) (by kernel_rfl) (fun _ _ _ h => h) (Or.inl ⟨by rfl, ?_⟩) hS ?_
                    rotate_left
                    · (intro w hSw; (try dsimp only at hSw); go_simp; (try with_reducible rfl))
                    simp only [List.getElem_toArray, List.getElem_cons_zero, List.getElem_cons_succ, Act.put, List.setIfInBounds_toArray, List.set_cons_zero, List.set_cons_succ]
                    refine wpAnyH_take (i := 2) (v := ?_) rfl (by kernel_rfl) (by kernel_rfl) (by kernel_rfl) (fun _ _ _ h => h) (Or.inl ⟨by rfl, ?_⟩) hS ?_
                    rotate_left
                    · (intro w hSw; (try dsimp only at hSw); go_simp; (try with_reducible rfl))
                    simp only [List.getElem_toArray, List.getElem_cons_zero, List.getElem_cons_succ, Act.put, List.setIfInBounds_toArray, List.set_cons_zero, List.set_cons_succ]
                    refine wpAnyH_take (i := 3) (v := ?_) rfl (by kernel_rfl) (by kernel_rfl) (by kernel_rfl) (fun _ _ _ h => h) (Or.inl ⟨by rfl, ?_⟩) hS ?_
                    rotate_left
                    · (intro w hSw; (try dsimp only at hSw); go_simp; (try with_reducible rfl))
                    simp only [List.getElem_toArray, List.getElem_cons_zero, List.getElem_cons_succ, Act.put, List.setIfInBounds_toArray, List.set_cons_zero, List.set_cons_succ]
                    refine wpAnyH_take (i := 4) (v := ?_) rfl (by kernel_rfl) (by kernel_rfl) (by kernel_rfl) (fun _ _ _ h => h) (Or.inl ⟨by rfl, ?_⟩) hS ?_
                    rotate_left
                    · (intro w hSw; (try dsimp only at hSw); go_simp; (try with_reducible rfl))
                    simp only [List.getElem_toArray, List.getElem_cons_zero, List.getElem_cons_succ, Act.put, List.setIfInBounds_toArray, List.set_cons_zero, List.set_cons_succ]
                    refine wpAnyH_take (i := 5) (v := ?_) rfl (by kernel_rfl) (by kernel_rfl) (by kernel_rfl) (fun _ _ _ h => h) (Or.inl ⟨by rfl, ?_⟩) hS ?_
                    rotate_left
                    · (intro w hSw; (try dsimp only at hSw); go_simp; (try with_reducible rfl))
                    simp only [List.getElem_toArray, List.getElem_cons_zero, List.getElem_cons_succ, Act.put, List.setIfInBounds_toArray, List.set_cons_zero, List.set_cons_succ]
                    refine wpAnyH_take (i := 6) (v := ?_) rfl (by kernel_rfl) (by kernel_rfl) (by kernel_rfl) (fun _ _ _ h => h) (Or.inl ⟨by rfl, ?_⟩) hS ?_
                    rotate_left
                    · (intro w hSw; (try dsimp only at hSw); go_simp; (try with_reducible rfl))
                    simp only [List.getElem_toArray, List.getElem_cons_zero, List.getElem_cons_succ, Act.put, List.setIfInBounds_toArray, List.set_cons_zero, List.set_cons_succ]
                    refine wpAnyH_take (i := 7) (v := ?_) rfl (by kernel_rfl) (by kernel_rfl) (by kernel_rfl) (fun _ _ _ h => h) (Or.inl ⟨by rfl, ?_⟩) hS ?_
                    rotate_left
                    · (intro w hSw; (try dsimp only at hSw); go_simp; (try with_reducible rfl))
                    simp only [List.getElem_toArray, List.getElem_cons_zero, List.getElem_cons_succ, Act.put, List.setIfInBounds_toArray, List.set_cons_zero, List.set_cons_succ]
                    refine wpAnyH_take (i := 8) (v := ?_) rfl (by kernel_rfl) (by kernel_rfl) (by kernel_rfl) (fun _ _ _ h => h) (Or.inl ⟨by rfl, ?_⟩) hS ?_
                    rotate_left
                    · (intro w hSw; (try dsimp only at hSw); go_simp; (try with_reducible rfl))
                    simp only [List.getElem_toArray, List.getElem_cons_zero, List.getElem_cons_succ, Act.put, List.setIfInBounds_toArray, List.set_cons_zero, List.set_cons_succ]
                    refine wpAnyH_take (i := 9) (v := ?_) rfl (by kernel_rfl) (by kernel_rfl) (by kernel_rfl) (fun _ _ _ h => h) (Or.inl ⟨by rfl, ?_⟩) hS ?_
                    rotate_left
                    · (intro w hSw; (try dsimp only at hSw); go_simp; (try with_reducible rfl))
                    simp only [List.getElem_toArray, List.getElem_cons_zero, List.getElem_cons_succ, Act.put, List.setIfInBounds_toArray, List.set_cons_zero, List.set_cons_succ]
                    refine wpAnyH_take (i := 10) (v := ?_) rfl (by kernel_rfl) (by kernel_rfl) (by kernel_rfl) (fun _ _ _ h => h) (Or.inl ⟨by rfl, ?_⟩) hS ?_
                    rotate_left
                    · (intro w hSw; (try dsimp only at hSw); go_simp; (try with_reducible rfl))
                    simp only [List.getElem_toArray, List.getElem_cons_zero, List.getElem_cons_succ, Act.put, List.setIfInBounds_toArray, List.set_cons_zero, List.set_cons_succ]
                    refine wpAnyH_take (i := 11) (v := ?_) rfl (by kernel_rfl) (by kernel_rfl) (by kernel_rfl) (fun _ _ _ h => h) (Or.inl ⟨by rfl, ?_⟩) hS ?_
                    rotate_left
                    · (intro w hSw; (try dsimp only at hSw); go_simp; (try with_reducible rfl))
                    simp only [List.getElem_toArray, List.getElem_cons_zero, List.getElem_cons_succ, Act.put, List.setIfInBounds_toArray, List.set_cons_zero, List.set_cons_succ]
                    refine wpAnyH_take (i := 12) (v := ?_) rfl (by kernel_rfl) (by kernel_rfl) (by kernel_rfl) (fun _ _ _ h => h) (Or.inl ⟨by rfl, ?_⟩) hS ?_
                    rotate_left
                    · (intro w hSw; (try dsimp only at hSw); go_simp; (try with_reducible rfl))
                    simp only [List.getElem_toArray, List.getElem_cons_zero, List.getElem_cons_succ, Act.put, List.setIfInBounds_toArray, List.set_cons_zero, List.set_cons_succ]
                    refine wpAnyH_take (i := 13) (v := ?_) rfl (by kernel_rfl) (by kernel_rfl) (by kernel_rfl) (fun _ _ _ h => h) (Or.inl ⟨by rfl, ?_⟩) hS ?_
                    rotate_left
                    · (intro w hSw; (try dsimp only at hSw); go_simp; (try with_reducible rfl))
                    simp only [List.getElem_toArray, List.getElem_cons_zero, List.getElem_cons_succ, Act.put, List.setIfInBounds_toArray, List.set_cons_zero, List.set_cons_succ]
                    refine wpAnyH_take (i := 14) (v := ?_) rfl (by kernel_rfl) (by kernel_rfl) (by kernel_rfl) (fun _ _ _ h => h) (Or.inl ⟨by rfl, ?_⟩) hS ?_
                    rotate_left
                    · (intro w hSw; (try dsimp only at hSw); go_simp; (try with_reducible rfl))
                    simp only [List.getElem_toArray, List.getElem_cons_zero, List.getElem_cons_succ, Act.put, List.setIfInBounds_toArray, List.set_cons_zero, List.set_cons_succ]
                    refine wpAnyH_take (i := 15) (v := ?_) rfl (by kernel_rfl) (by kernel_rfl) (by kernel_rfl) (fun _ _ _ h => h) (Or.inl ⟨by rfl, ?_⟩) hS ?_
                    rotate_left
                    · (intro w hSw; (try dsimp only at hSw); go_simp; (try with_reducible rfl))
                    simp only [List.getElem_toArray, List.getElem_cons_zero, List.getElem_cons_succ, Act.put, List.setIfInBounds_toArray, List.set_cons_zero, List.set_cons_succ]
                    refine wpAnyH_take (i := 16) (v := ?_) rfl (by kernel_rfl) (by kernel_rfl) (by kernel_rfl) (fun _ _ _ h => h) (Or.inl ⟨by rfl, ?_⟩) hS ?_
                    rotate_left
                    · (intro w hSw; (try dsimp only at hSw); go_simp; (try with_reducible rfl))
                    simp only [List.getElem_toArray, List.getElem_cons_zero, List.getElem_cons_succ, Act.put, List.setIfInBounds_toArray, List.set_cons_zero, List.set_cons_succ]
                    refine wpAnyH_take (i := 17) (v := ?_) rfl (by kernel_rfl) (by kernel_rfl) (by kernel_rfl) (fun _ _ _ h => h) (Or.inl ⟨by rfl, ?_⟩) hS ?_
                    rotate_left
                    · (intro w hSw; (try dsimp only at hSw); go_simp; (try with_reducible rfl))
                    simp only [List.getElem_toArray, List.getElem_cons_zero, List.getElem_cons_succ, Act.put, List.setIfInBounds_toArray, List.set_cons_zero, List.set_cons_succ]
                    refine wpAnyH_ready (rs := [18]) (by kernel_rfl) (by simp) ?_
                    refine AllReadyH.cons rfl (fun K hK => ?_) AllReadyH.nil
                    go_simp
                    refine hK.out _ _ ?_ (fun hS => ?_)
                    · (simp [go_sem, *])
                    clear hK K
                    refine wpAnyH_ready (rs := [19]) (by kernel_rfl) (by simp) ?_
                    refine AllReadyH.cons rfl (fun K hK => ?_) AllReadyH.nil
                    go_simp
                    apply rows_value Ybaf.nextTurns
                    case hr => (go_simp; exact ⟨rfl, rfl⟩)
                    refine hK.out _ _ ?_ (fun hS => ?_)
                    · (simp [go_sem, *])
                    clear hK K
                    refine wpAnyH_ready (rs := [20]) (by kernel_rfl) (by simp) ?_
                    refine AllReadyH.cons rfl (fun K hK => ?_) AllReadyH.nil
                    go_simp
                    refine hK.out _ _ ?_ (fun hS => ?_)
                    · (simp [go_sem, *])
                    clear hK K
                    refine wpAnyH_ready (rs := [21]) (by kernel_rfl) (by simp) ?_
                    refine AllReadyH.cons rfl (fun K hK => ?_) AllReadyH.nil
                    go_simp
                    refine hK.out _ _ ?_ (fun hS => ?_)
                    · (simp [go_sem, *])
                    clear hK K
                    refine wpAnyH_done (by kernel_rfl) ?_ _
                    clear hS
                    gi_wp2_with (fail)
                    exact gone_out HCW.out _ _ _ _ _ ⟨_, List.mem_append_right _ (List.mem_singleton.2 rfl), hx⟩
                · have Hnew : Hid (∀ y ∈ pre ++ [(⟨(i, p), hi, hp⟩ : PR k2)], ¬ q3 of y) := fun y hy => by
                    rcases List.mem_append.1 hy with h | h
                    · exact Hpre.out y h
                    · simp at h; subst h; exact hx
                  gi_wp2_with (fail)
                  refine region_round (S := fun w' : World => w'.cell? ⟨w.heap.size + 1 + 1 + 1 + 1, 0, none⟩ = some (.slice (some ⟨g, 0, none⟩) k2 cap) ∧ w'.cell? ⟨g, i * 2, none⟩ = some (.int .i64 (of i)) ∧ w'.cell? ⟨g, i * 2 + 1, none⟩ = some (.int .i64 (lf i)) ∧ w'.cell? ⟨g, p * 2, none⟩ = some (.int .i64 (of p)) ∧ w'.cell? ⟨g, p * 2 + 1, none⟩ = some (.int .i64 (lf p))) (by kernel_rfl) (by rintro ⟨_, _, h⟩; exact h) (by kernel_rfl) ?_
                  have hS : (fun w' : World => w'.cell? ⟨w.heap.size + 1 + 1 + 1 + 1, 0, none⟩ = some (.slice (some ⟨g, 0, none⟩) k2 cap) ∧ w'.cell? ⟨g, i * 2, none⟩ = some (.int .i64 (of i)) ∧ w'.cell? ⟨g, i * 2 + 1, none⟩ = some (.int .i64 (lf i)) ∧ w'.cell? ⟨g, p * 2, none⟩ = some (.int .i64 (of p)) ∧ w'.cell? ⟨g, p * 2 + 1, none⟩ = some (.int .i64 (lf p))) W.drew := ⟨c9, ci0, ci1, cp0, cp1⟩
                  refine wpAnyH_take (i := 0) (v := ?_) rfl (by kernel_rfl) (by kernel_rfl) (by kernel_rfl) (fun _ _ _ h => h) (Or.inl ⟨by rfl, ?_⟩) hS ?_
                  rotate_left
                  · (intro w hSw; (try dsimp only at hSw); go_simp; (try with_reducible rfl))
                  simp only [List.getElem_toArray, List.getElem_cons_zero, List.getElem_cons_succ, Act.put, List.setIfInBounds_toArray, List.set_cons_zero, List.set_cons_succ]
                  refine wpAnyH_take (i := 1) (v := ?_) rfl (by kernel_rfl) (by kernel_rfl) (by kernel_rfl) (fun _ _ _ h => h) (Or.inl ⟨by rfl, ?_⟩) hS ?_
                  rotate_left
                  · (intro w hSw; (try dsimp only at hSw); go_simp; (try with_reducible rfl))
                  simp only [List.getElem_toArray, List.getElem_cons_zero, List.getElem_cons_succ, Act.put, List.setIfInBounds_toArray, List.set_cons_zero, List.set_cons_succ]
                  refine wpAnyH_take (i := 2) (v := ?_) rfl (by kernel_rfl) (by kernel_rfl) (by kernel_rfl) (fun _ _ _ h => h) (Or.inl ⟨by rfl, ?_⟩) hS ?_
                  rotate_left
                  · (intro w hSw; (try dsimp only at hSw); go_simp; (try with_reducible rfl))
                  simp only [List.getElem_toArray, List.getElem_cons_zero, List.getElem_cons_succ, Act.put, List.setIfInBounds_toArray, List.set_cons_zero, List.set_cons_succ]
                  refine wpAnyH_take (i := 3) (v := ?_) rfl (by kernel_rfl) (by kernel_rfl) (by kernel_rfl) (fun _ _ _ h => h) (Or.inl ⟨by rfl, ?_⟩) hS ?_
                  rotate_left
                  · (intro w hSw; (try dsimp only at hSw); go_simp; (try with_reducible rfl))
                  simp only [List.getElem_toArray, List.getElem_cons_zero, List.getElem_cons_succ, Act.put, List.setIfInBounds_toArray, List.set_cons_zero, List.set_cons_succ]
                  refine wpAnyH_take (i := 4) (v := ?_) rfl (by kernel_rfl) (by kernel_rfl) (by kernel_rfl) (fun _ _ _ h => h) (Or.inl ⟨by rfl, ?_⟩) hS ?_
                  rotate_left
                  · (intro w hSw; (try dsimp only at hSw); go_simp; (try with_reducible rfl))
                  simp only [List.getElem_toArray, List.getElem_cons_zero, List.getElem_cons_succ, Act.put, List.setIfInBounds_toArray, List.set_cons_zero, List.set_cons_succ]
                  refine wpAnyH_take (i := 5) (v := ?_) rfl (by kernel_rfl) (by kernel_rfl) (by kernel_rfl) (fun _ _ _ h => h) (Or.inl ⟨by rfl, ?_⟩) hS ?_
                  rotate_left
                  · (intro w hSw; (try dsimp only at hSw); go_simp; (try with_reducible rfl))
                  simp only [List.getElem_toArray, List.getElem_cons_zero, List.getElem_cons_succ, Act.put, List.setIfInBounds_toArray, List.set_cons_zero, List.set_cons_succ]
                  refine wpAnyH_take (i := 6) (v := ?_) rfl (by kernel_rfl) (by kernel_rfl) (by kernel_rfl) (fun _ _ _ h => h) (Or.inl ⟨by rfl, ?_⟩) hS ?_
                  rotate_left
                  · (intro w hSw; (try dsimp only at hSw); go_simp; (try with_reducible rfl))
                  simp only [List.getElem_toArray, List.getElem_cons_zero, List.getElem_cons_succ, Act.put, List.setIfInBounds_toArray, List.set_cons_zero, List.set_cons_succ]
                  refine wpAnyH_take (i := 7) (v := ?_) rfl (by kernel_rfl) (by kernel_rfl) (by kernel_rfl) (fun _ _ _ h => h) (Or.inl ⟨by rfl, ?_⟩) hS ?_
                  rotate_left
                  · (intro w hSw; (try dsimp only at hSw); go_simp; (try with_reducible rfl))
                  simp only [List.getElem_toArray, List.getElem_cons_zero, List.getElem_cons_succ, Act.put, List.setIfInBounds_toArray, List.set_cons_zero, List.set_cons_succ]
                  refine wpAnyH_ready (rs := [8, 9]) (by kernel_rfl) (by simp) ?_
                  refine AllReadyH.cons rfl (fun K hK => ?_) (AllReadyH.cons rfl (fun K hK => ?_) AllReadyH.nil)
                  · go_simp
                    refine hK.out _ _ ?_ (fun hS => ?_)
                    · (simp [go_sem, *])
                    clear hK K
                    refine wpAnyH_ready (rs := [9]) (by kernel_rfl) (by simp) ?_
                    refine AllReadyH.cons rfl (fun K hK => ?_) AllReadyH.nil
                    go_simp
                    refine hK.out _ _ ?_ (fun hS => ?_)
                    · (simp [go_sem, *])
                    clear hK K
                    refine wpAnyH_ready (rs := [10]) (by kernel_rfl) (by simp) ?_
                    refine AllReadyH.cons rfl (fun K hK => ?_) AllReadyH.nil
                    go_simp
                    refine hK.out _ _ ?_ (fun hS => ?_)
                    · (simp [go_sem, *])
                    clear hK K
                    refine wpAnyH_ready (rs := [11]) (by kernel_rfl) (by simp) ?_
                    refine AllReadyH.cons rfl (fun K hK => ?_) AllReadyH.nil
                    go_simp
                    refine hK.out _ _ ?_ (fun hS => ?_)
                    · (simp [go_sem, *])
                    clear hK K
                    refine wpAnyH_done (by kernel_rfl) ?_ _
                    clear hS
                    gi_wp2_with (fail)
                    exact ⟨((KeepsOthers.alloc _ _).trans (KeepsOthers.alloc _ _)).trans (KeepsOthers.drew _), HB2.out _ _, Hnew.out, HBW.out.trans (HB2.out _ _)⟩
                  · go_simp
                    refine hK.out _ _ ?_ (fun hS => ?_)
                    · (simp [go_sem, *])
                    clear hK K
                    refine wpAnyH_ready (rs := [8]) (by kernel_rfl) (by simp) ?_
                    refine AllReadyH.cons rfl (fun K hK => ?_) AllReadyH.nil
                    go_simp
                    refine hK.out _ _ ?_ (fun hS => ?_)
                    · (simp [go_sem, *])
                    clear hK K
                    refine wpAnyH_ready (rs := [10]) (by kernel_rfl) (by simp) ?_
                    refine AllReadyH.cons rfl (fun K hK => ?_) AllReadyH.nil
                    go_simp
                    refine hK.out _ _ ?_ (fun hS => ?_)
                    · (simp [go_sem, *])
                    clear hK K
                    refine wpAnyH_ready (rs := [11]) (by kernel_rfl) (by simp) ?_
                    refine AllReadyH.cons rfl (fun K hK => ?_) AllReadyH.nil
                    go_simp
                    refine hK.out _ _ ?_ (fun hS => ?_)
                    · (simp [go_sem, *])
                    clear hK K
                    refine wpAnyH_done (by kernel_rfl) ?_ _
                    clear hS
                    gi_wp2_with (fail)
                    exact ⟨((KeepsOthers.alloc _ _).trans (KeepsOthers.alloc _ _)).trans (KeepsOthers.drew _), HB2.out _ _, Hnew.out, HBW.out.trans (HB2.out _ _)⟩
              case done =>
                rintro D ys Wd hD hys ⟨hno, hB⟩ hK
                have HC1 : Hid (CK w Wd ap k2 cp of lf g cap k2) := hC0.below hB
                have N3 : Hid (anyUpto (p3 of lf) k2 = false) := miss3 hys hno
                have HK : Hid (Wd.heap[D]? = some (.deferred (some []))) := hK
                have HD1 : Hid (W0.heap.size ≤ D) := hD
                have c9' := HC1.out.c9
                have hDn : Hid (w.heap.size + 1 + 1 + 1 + 1 < D) := by show _ < _; have := hC0.sz; omega
                clear hno hB hK hD hys hcB hC0 HC' HV
                go_wp2_with (fail)
                refine (vio_walk _ _ _ _).mono ?_
                rintro e w1 ⟨rfl, rfl⟩
                go_wp2_with (fail)
                obtain ⟨W0', hW0'⟩ : ∃ W0', Wd.alloc (.cells #[.slice (some ⟨g, 0, none⟩) k2 cap] 58) = W0' := ⟨_, rfl⟩
                have hs0 : W0'.heap.size = Wd.heap.size + 1 := by rw [← hW0']; simp
                have hC0 : CK w W0' ap k2 cp of lf g cap k2 := by rw [← hW0']; exact HC1.out.below ((Below.refl _ _).alloc (Nat.le_refl _) _)
                have hcB : W0'.cell? ⟨Wd.heap.size, 0, none⟩ = some (.slice (some ⟨g, 0, none⟩) k2 cap) := by rw [← hW0']; simp [go_sem]
                have hK0 : W0'.heap[D]? = some (.deferred (some [])) := by rw [← hW0']; exact (Below.heap_alloc _ _ _ (Array.getElem?_eq_some_iff.1 HK.out).1).trans HK.out
                have hDlt : D < W0'.heap.size := (Array.getElem?_eq_some_iff.1 hK0).1
                rw [hW0']
                refine (wpIn_wide (n := 3)).1 ?_
                refine wpIn_rangeFunc_ownF rfl (by omega) (gf := 22) (lb := #[.pointer (some ⟨Wd.heap.size, 0, none⟩)]) rfl trivial (enters_of Ybaf.func22 (by kernel_rfl) rfl)
                  (iter_stops (3 - 1) Wd.heap.size W0'.heap.size g k2 cap of lf hm hC0.vs.lt W0' (by omega) (Nat.le_refl _) hcB hC0.vs.v) belowK_t (belowK_b (Nat.le_refl _)) (Below.refl _ _) (fun _ => rfl)
                  (Going (q4 of lf) W0') (Gone2 (q4 of lf) w r4 D) (going_own _ _) (gone2_own _ _ _ D _ hDlt (by have := hC0.sz; omega))
                  ⟨fun y hy => (by cases hy), Below.refl _ _⟩
                  ?a2 ?assign2 ?body2 ?done2 ?stop2
                case assign2 =>
                  intro l x W K hK
                  simp only [encP]
                  gi_wp2
                  exact hK
                case body2 =>
                    rintro l pre x W hIW hlen
                    obtain ⟨hpre, hBW⟩ := hIW
                    have HCW : Hid (CK w W ap k2 cp of lf g cap k2) := hC0.below hBW
                    have Hpre : Hid (∀ y ∈ pre, ¬ q4 of lf y) := hpre
                    have HBW : Hid (Below W0'.heap.size W0' W) := hBW
                    have HB2 : Hid (∀ a b c : Obj, Below W0'.heap.size W (((W.alloc a).alloc b).alloc c).drew.drew) := fun a b c => ((((Below.refl _ _).alloc hBW.size a).alloc (by have := hBW.size; simp; omega) b).alloc (by have := hBW.size; simp; omega) c).drew.drew
                    have HKW : Hid (W.heap[D]? = some (.deferred (some []))) := (hBW.block D hDlt).trans hK0
                    clear hpre hBW hs0
                    obtain ⟨⟨i, p⟩, hi, hp⟩ := x
                    simp only at hi hp ⊢
                    have c9 := HCW.out.c9
                    have ci := HCW.out.vs.v i hi
                    have cp' := HCW.out.vs.v p hp
                    obtain ⟨ci0, ci1⟩ := ci
                    obtain ⟨cp0, cp1⟩ := cp'
                    have hgW := HCW.out.vs.lt
                    have h9W := HCW.out.sz
                    have hgW1 : g < W.heap.size + 1 := by omega
                    have hgW2 : g < W.heap.size + 1 + 1 := by omega
                    have h9W1 : w.heap.size + 1 + 1 + 1 + 1 < W.heap.size + 1 := by omega
                    have h9W2 : w.heap.size + 1 + 1 + 1 + 1 < W.heap.size + 1 + 1 := by omega
                    have hiN : (i : Int) < (k2 : Int) := by omega
                    have hpN : (p : Int) < (k2 : Int) := by omega
                    by_cases hx : of i < of p + lf p
                    · obtain ⟨b, o, gp, rfl, rfl, -, -, hptr, -⟩ := HD.out.resolve_left (by omega)
                      have q0 := ((hptr.below HCW.out.bel).2 i hi).1
                      have q1 := ((hptr.below HCW.out.bel).2 p hp).1
                      have gpl : gp < W.heap.size := (hptr.below HCW.out.bel).1
                      have gp0 := hptr.1
                      have gp1 : ¬ w.heap.size + 1 = gp := by omega
                      have gp2 : ¬ w.heap.size + 1 + 1 = gp := by omega
                      have c5 := HCW.out.c5
                      have c6 := HCW.out.c6
                      have c7 := HCW.out.c7
                      have f6 := HCW.out.f6
                      have f7 := HCW.out.f7
                      have s5 : w.heap.size < W.heap.size := by omega
                      have s6 : w.heap.size + 1 < W.heap.size := by omega
                      have s7 : w.heap.size + 1 + 1 < W.heap.size := by omega
                      have ta1 : w.heap.size < W.heap.size + 1 := by omega
                      have tb1 : w.heap.size + 1 < W.heap.size + 1 := by omega
                      have tc1 : w.heap.size + 1 + 1 < W.heap.size + 1 := by omega
                      have td1 : gp < W.heap.size + 1 := by omega
                      have ta2 : w.heap.size < W.heap.size + 1 + 1 := by omega
                      have tb2 : w.heap.size + 1 < W.heap.size + 1 + 1 := by omega
                      have tc2 : w.heap.size + 1 + 1 < W.heap.size + 1 + 1 := by omega
                      have td2 : gp < W.heap.size + 1 + 1 := by omega
                      have ta3 : w.heap.size < W.heap.size + 1 + 1 + 1 := by omega
                      have tb3 : w.heap.size + 1 < W.heap.size + 1 + 1 + 1 := by omega
                      have tc3 : w.heap.size + 1 + 1 < W.heap.size + 1 + 1 + 1 := by omega
                      have td3 : gp < W.heap.size + 1 + 1 + 1 := by omega
                      have ta4 : w.heap.size < W.heap.size + 1 + 1 + 1 + 1 := by omega
                      have tb4 : w.heap.size + 1 < W.heap.size + 1 + 1 + 1 + 1 := by omega
                      have tc4 : w.heap.size + 1 + 1 < W.heap.size + 1 + 1 + 1 + 1 := by omega
                      have td4 : gp < W.heap.size + 1 + 1 + 1 + 1 := by omega
                      have ta5 : w.heap.size < W.heap.size + 1 + 1 + 1 + 1 + 1 := by omega
                      have tb5 : w.heap.size + 1 < W.heap.size + 1 + 1 + 1 + 1 + 1 := by omega
                      have tc5 : w.heap.size + 1 + 1 < W.heap.size + 1 + 1 + 1 + 1 + 1 := by omega
                      have td5 : gp < W.heap.size + 1 + 1 + 1 + 1 + 1 := by omega
                      have ta6 : w.heap.size < W.heap.size + 1 + 1 + 1 + 1 + 1 + 1 := by omega
                      have tb6 : w.heap.size + 1 < W.heap.size + 1 + 1 + 1 + 1 + 1 + 1 := by omega
                      have tc6 : w.heap.size + 1 + 1 < W.heap.size + 1 + 1 + 1 + 1 + 1 + 1 := by omega
                      have td6 : gp < W.heap.size + 1 + 1 + 1 + 1 + 1 + 1 := by omega
                      have hFr : F.answers W.tape := by rw [HCW.out.bel.tape]; exact hF
                      have hF' := answers_open hFr
                      clear hptr
                      gi_wp2_with (fail)
                      refine region_round (S := fun w' : World => w'.cell? ⟨w.heap.size + 1 + 1 + 1 + 1, 0, none⟩ = some (.slice (some ⟨g, 0, none⟩) k2 cap) ∧ w'.cell? ⟨g, i * 2, none⟩ = some (.int .i64 (of i)) ∧ w'.cell? ⟨g, i * 2 + 1, none⟩ = some (.int .i64 (lf i)) ∧ w'.cell? ⟨g, p * 2, none⟩ = some (.int .i64 (of p)) ∧ w'.cell? ⟨g, p * 2 + 1, none⟩ = some (.int .i64 (lf p))) (by kernel_rfl) (by rintro ⟨_, _, h⟩; exact h) (by kernel_rfl) ?_
                      have hS : (fun w' : World => w'.cell? ⟨w.heap.size + 1 + 1 + 1 + 1, 0, none⟩ = some (.slice (some ⟨g, 0, none⟩) k2 cap) ∧ w'.cell? ⟨g, i * 2, none⟩ = some (.int .i64 (of i)) ∧ w'.cell? ⟨g, i * 2 + 1, none⟩ = some (.int .i64 (lf i)) ∧ w'.cell? ⟨g, p * 2, none⟩ = some (.int .i64 (of p)) ∧ w'.cell? ⟨g, p * 2 + 1, none⟩ = some (.int .i64 (lf p))) (W).drew := ⟨c9, ci0, ci1, cp0, cp1⟩
                      refine wpAnyH_take (i := 0) (v := ?_) rfl (by kernel_rfl) (by kernel_rfl) (by kernel_rfl) (fun _ _ _ h => h) (Or.inl ⟨by rfl, ?_⟩) hS ?_
                      rotate_left
                      · (intro w hSw; (try dsimp only at hSw); go_simp; (try with_reducible rfl))
                      simp only [List.getElem_toArray, List.getElem_cons_zero, List.getElem_cons_succ, Act.put, List.setIfInBounds_toArray, List.set_cons_zero, List.set_cons_succ]
                      refine wpAnyH_take (i := 1) (v := ?_) rfl (by kernel_rfl) (by kernel_rfl) (by kernel_rfl) (fun _ _ _ h => h) (Or.inl ⟨by rfl, ?_⟩) hS ?_
                      rotate_left
                      · (intro w hSw; (try dsimp only at hSw); go_simp; (try with_reducible rfl))
                      simp only [List.getElem_toArray, List.getElem_cons_zero, List.getElem_cons_succ, Act.put, List.setIfInBounds_toArray, List.set_cons_zero, List.set_cons_succ]
                      refine wpAnyH_take (i := 2) (v := ?_) rfl (by kernel_rfl) (by kernel_rfl) (by kernel_rfl) (fun _ _ _ h => h) (Or.inl ⟨by rfl, ?_⟩) hS ?_
                      rotate_left
                      · (intro w hSw; (try dsimp only at hSw); go_simp; (try with_reducible rfl))
                      simp only [List.getElem_toArray, List.getElem_cons_zero, List.getElem_cons_succ, Act.put, List.setIfInBounds_toArray, List.set_cons_zero, List.set_cons_succ]
                      refine wpAnyH_take (i := 3) (v := ?_) rfl (by kernel_rfl) (by kernel_rfl) (by kernel_rfl) (fun _ _ _ h => h) (Or.inl ⟨by rfl, ?_⟩) hS ?_
                      rotate_left
                      · (intro w hSw; (try dsimp only at hSw); go_simp; (try with_reducible rfl))
                      simp only [List.getElem_toArray, List.getElem_cons_zero, List.getElem_cons_succ, Act.put, List.setIfInBounds_toArray, List.set_cons_zero, List.set_cons_succ]
                      refine wpAnyH_take (i := 4) (v := ?_) rfl (by kernel_rfl) (by kernel_rfl) (by kernel_rfl) (fun _ _ _ h => h) (Or.inl ⟨by rfl, ?_⟩) hS ?_
                      rotate_left
                      · (intro w hSw; (try dsimp only at hSw); go_simp; (try with_reducible rfl))
                      simp only [List.getElem_toArray, List.getElem_cons_zero, List.getElem_cons_succ, Act.put, List.setIfInBounds_toArray, List.set_cons_zero, List.set_cons_succ]
                      refine wpAnyH_take (i := 5) (v := ?_) rfl (by kernel_rfl) (by kernel_rfl) (by kernel_rfl) (fun _ _ _ h => h) (Or.inl ⟨by rfl, ?_⟩) hS ?_
                      rotate_left
                      · (intro w hSw; (try dsimp only at hSw); go_simp; (try with_reducible rfl))
                      simp only [List.getElem_toArray, List.getElem_cons_zero, List.getElem_cons_succ, Act.put, List.setIfInBounds_toArray, List.set_cons_zero, List.set_cons_succ]
                      refine wpAnyH_take (i := 6) (v := ?_) rfl (by kernel_rfl) (by kernel_rfl) (by kernel_rfl) (fun _ _ _ h => h) (Or.inl ⟨by rfl, ?_⟩) hS ?_
                      rotate_left
                      · (intro w hSw; (try dsimp only at hSw); go_simp; (try with_reducible rfl))
                      simp only [List.getElem_toArray, List.getElem_cons_zero, List.getElem_cons_succ, Act.put, List.setIfInBounds_toArray, List.set_cons_zero, List.set_cons_succ]
                      refine wpAnyH_take (i := 7) (v := ?_) rfl (by kernel_rfl) (by kernel_rfl) (by kernel_rfl) (fun _ _ _ h => h) (Or.inl ⟨by rfl, ?_⟩) hS ?_
                      rotate_left
                      · (intro w hSw; (try dsimp only at hSw); go_simp; (try with_reducible rfl))
                      simp only [List.getElem_toArray, List.getElem_cons_zero, List.getElem_cons_succ, Act.put, List.setIfInBounds_toArray, List.set_cons_zero, List.set_cons_succ]
                      refine wpAnyH_ready (rs := [8, 9]) (by kernel_rfl) (by simp) ?_
                      refine AllReadyH.cons rfl (fun K hK => ?_) (AllReadyH.cons rfl (fun K hK => ?_) AllReadyH.nil)
                      · go_simp
                        refine hK.out _ _ ?_ (fun hS => ?_)
                        · (simp [go_sem, *])
                        clear hK K
                        refine wpAnyH_ready (rs := [9]) (by kernel_rfl) (by simp) ?_
                        refine AllReadyH.cons rfl (fun K hK => ?_) AllReadyH.nil
                        go_simp
                        refine hK.out _ _ ?_ (fun hS => ?_)
                        · (simp [go_sem, *])
                        clear hK K
                        refine wpAnyH_ready (rs := [10]) (by kernel_rfl) (by simp) ?_
                        refine AllReadyH.cons rfl (fun K hK => ?_) AllReadyH.nil
                        go_simp
                        refine hK.out _ _ ?_ (fun hS => ?_)
                        · (simp [go_sem, *])
                        clear hK K
                        refine wpAnyH_ready (rs := [11]) (by kernel_rfl) (by simp) ?_
                        refine AllReadyH.cons rfl (fun K hK => ?_) AllReadyH.nil
                        go_simp
                        refine hK.out _ _ ?_ (fun hS => ?_)
                        · (simp [go_sem, *])
                        clear hK K
                        refine wpAnyH_done (by kernel_rfl) ?_ _
                        clear hS
                        gi_wp2_with (fail)
                        refine region_round (S := fun w' : World => w'.cell? ⟨W.heap.size, 0, none⟩ = some (.int .i64 (of i)) ∧ w'.cell? ⟨W.heap.size + 1, 0, none⟩ = some (.int .i64 (of p)) ∧ w'.cell? ⟨W.heap.size + 1, 1, none⟩ = some (.int .i64 (lf p))) (by kernel_rfl) (by rintro ⟨_, _, h⟩; exact h) (by kernel_rfl) ?_
                        have hS : (fun w' : World => w'.cell? ⟨W.heap.size, 0, none⟩ = some (.int .i64 (of i)) ∧ w'.cell? ⟨W.heap.size + 1, 0, none⟩ = some (.int .i64 (of p)) ∧ w'.cell? ⟨W.heap.size + 1, 1, none⟩ = some (.int .i64 (lf p))) (((W.alloc (.cells #[.int .i64 (of i), .int .i64 (lf i)] 56)).alloc (.cells #[.int .i64 (of p), .int .i64 (lf p)] 56)).drew).drew := by simp [go_sem, *]
                        refine wpAnyH_take (i := 0) (v := ?_) rfl (by kernel_rfl) (by kernel_rfl) (by kernel_rfl) (fun _ _ _ h => h) (Or.inl ⟨by rfl, ?_⟩) hS ?_
                        rotate_left
                        · (intro w hSw; (try dsimp only at hSw); go_simp; (try with_reducible rfl))
                        simp only [List.getElem_toArray, List.getElem_cons_zero, List.getElem_cons_succ, Act.put, List.setIfInBounds_toArray, List.set_cons_zero, List.set_cons_succ]
                        refine wpAnyH_take (i := 1) (v := ?_) rfl (by kernel_rfl) (by kernel_rfl) (by kernel_rfl) (fun _ _ _ h => h) (Or.inl ⟨by rfl, ?_⟩) hS ?_
                        rotate_left
                        · (intro w hSw; (try dsimp only at hSw); go_simp; (try with_reducible rfl))
                        simp only [List.getElem_toArray, List.getElem_cons_zero, List.getElem_cons_succ, Act.put, List.setIfInBounds_toArray, List.set_cons_zero, List.set_cons_succ]
                        refine wpAnyH_take (i := 2) (v := ?_) rfl (by kernel_rfl) (by kernel_rfl) (by kernel_rfl) (fun _ _ _ h => h) (Or.inl ⟨by rfl, ?_⟩) hS ?_
                        rotate_left
                        · (intro w hSw; (try dsimp only at hSw); go_simp; (try with_reducible rfl))
                        simp only [List.getElem_toArray, List.getElem_cons_zero, List.getElem_cons_succ, Act.put, List.setIfInBounds_toArray, List.set_cons_zero, List.set_cons_succ]
                        refine wpAnyH_ready (rs := [3]) (by kernel_rfl) (by simp) ?_
                        refine AllReadyH.cons rfl (fun K hK => ?_) AllReadyH.nil
                        go_simp
                        refine (end_walk (of p) (lf p) _ (Hof.out p) (Hlf.out p)).mono ?_
                        rintro e w1 ⟨rfl, rfl⟩
                        (try dsimp only)
                        refine hK.out _ _ ?_ (fun hS => ?_)
                        · (simp [go_sem, *])
                        clear hK K
                        refine wpAnyH_take (i := 4) (v := ?_) rfl (by kernel_rfl) (by kernel_rfl) (by kernel_rfl) (fun _ _ _ h => h) (Or.inl ⟨by rfl, ?_⟩) hS ?_
                        rotate_left
                        · (intro w hSw; (try dsimp only at hSw); go_simp; (try with_reducible rfl))
                        simp only [List.getElem_toArray, List.getElem_cons_zero, List.getElem_cons_succ, Act.put, List.setIfInBounds_toArray, List.set_cons_zero, List.set_cons_succ]
                        refine wpAnyH_done (by kernel_rfl) ?_ _
                        clear hS
                        gi_wp2_with (fail)
                        refine region_round (S := fun w' : World => w'.cell? ⟨w.heap.size, 0, none⟩ = some (.slice (some ⟨gp, 0, none⟩) k2 cp) ∧ w'.cell? ⟨gp, i * 2, none⟩ = some (.string vS) ∧ w'.cell? ⟨gp, p * 2, none⟩ = some (.string vS) ∧ w'.cell? ⟨W.heap.size, 0, none⟩ = some (.int .i64 (of i)) ∧ w'.cell? ⟨W.heap.size, 1, none⟩ = some (.int .i64 (lf i)) ∧ w'.cell? ⟨W.heap.size + 1, 0, none⟩ = some (.int .i64 (of p)) ∧ w'.cell? ⟨W.heap.size + 1, 1, none⟩ = some (.int .i64 (lf p))) (by kernel_rfl) (by rintro ⟨_, _, h⟩; exact h) (by kernel_rfl) ?_
                        have hS : (fun w' : World => w'.cell? ⟨w.heap.size, 0, none⟩ = some (.slice (some ⟨gp, 0, none⟩) k2 cp) ∧ w'.cell? ⟨gp, i * 2, none⟩ = some (.string vS) ∧ w'.cell? ⟨gp, p * 2, none⟩ = some (.string vS) ∧ w'.cell? ⟨W.heap.size, 0, none⟩ = some (.int .i64 (of i)) ∧ w'.cell? ⟨W.heap.size, 1, none⟩ = some (.int .i64 (lf i)) ∧ w'.cell? ⟨W.heap.size + 1, 0, none⟩ = some (.int .i64 (of p)) ∧ w'.cell? ⟨W.heap.size + 1, 1, none⟩ = some (.int .i64 (lf p))) ((((W.alloc (.cells #[.int .i64 (of i), .int .i64 (lf i)] 56)).alloc (.cells #[.int .i64 (of p), .int .i64 (lf p)] 56)).alloc (.cells #[.int .i64 (of p), .int .i64 (lf p)] 56)).drew.drew).drew := by simp [go_sem, *]
                        refine wpAnyH_take (i := 0) (v := ?_) rfl (by kernel_rfl) (by kernel_rfl) (by kernel_rfl) (fun _ _ _ h => h) (Or.inl ⟨by rfl, ?_⟩) hS ?_
                        rotate_left
                        · (intro w hSw; (try dsimp only at hSw); go_simp; (try with_reducible rfl))
                        simp only [List.getElem_toArray, List.getElem_cons_zero, List.getElem_cons_succ, Act.put, List.setIfInBounds_toArray, List.set_cons_zero, List.set_cons_succ]
                        refine wpAnyH_take (i := 1) (v := ?_) rfl (by kernel_rfl) (by kernel_rfl) (by kernel_rfl) (fun _ _ _ h => h) (Or.inl ⟨by rfl, ?_⟩) hS ?_
                        rotate_left
                        · (intro w hSw; (try dsimp only at hSw); go_simp; (try with_reducible rfl))
                        simp only [List.getElem_toArray, List.getElem_cons_zero, List.getElem_cons_succ, Act.put, List.setIfInBounds_toArray, List.set_cons_zero, List.set_cons_succ]
                        refine wpAnyH_take (i := 2) (v := ?_) rfl (by kernel_rfl) (by kernel_rfl) (by kernel_rfl) (fun _ _ _ h => h) (Or.inl ⟨by rfl, ?_⟩) hS ?_
                        rotate_left
                        · (intro w hSw; (try dsimp only at hSw); go_simp; (try with_reducible rfl))
                        simp only [List.getElem_toArray, List.getElem_cons_zero, List.getElem_cons_succ, Act.put, List.setIfInBounds_toArray, List.set_cons_zero, List.set_cons_succ]
                        refine wpAnyH_take (i := 3) (v := ?_) rfl (by kernel_rfl) (by kernel_rfl) (by kernel_rfl) (fun _ _ _ h => h) (Or.inl ⟨by rfl, ?_⟩) hS ?_
                        rotate_left
                        · (intro w hSw; (try dsimp only at hSw); go_simp; (try with_reducible rfl))
                        simp only [List.getElem_toArray, List.getElem_cons_zero, List.getElem_cons_succ, Act.put, List.setIfInBounds_toArray, List.set_cons_zero, List.set_cons_succ]
                        refine wpAnyH_take (i := 4) (v := ?_) rfl (by kernel_rfl) (by kernel_rfl) (by kernel_rfl) (fun _ _ _ h => h) (Or.inl ⟨by rfl, ?_⟩) hS ?_
                        rotate_left
                        · (intro w hSw; (try dsimp only at hSw); go_simp; (try with_reducible rfl))
                        simp only [List.getElem_toArray, List.getElem_cons_zero, List.getElem_cons_succ, Act.put, List.setIfInBounds_toArray, List.set_cons_zero, List.set_cons_succ]
                        refine wpAnyH_take (i := 5) (v := ?_) rfl (by kernel_rfl) (by kernel_rfl) (by kernel_rfl) (fun _ _ _ h => h) (Or.inl ⟨by rfl, ?_⟩) hS ?_
                        rotate_left
                        · (intro w hSw; (try dsimp only at hSw); go_simp; (try with_reducible rfl))
                        simp only [List.getElem_toArray, List.getElem_cons_zero, List.getElem_cons_succ, Act.put, List.setIfInBounds_toArray, List.set_cons_zero, List.set_cons_succ]
                        refine wpAnyH_take (i := 6) (v := ?_) rfl (by kernel_rfl) (by kernel_rfl) (by kernel_rfl) (fun _ _ _ h => h) (Or.inl ⟨by rfl, ?_⟩) hS ?_
                        rotate_left
                        · (intro w hSw; (try dsimp only at hSw); go_simp; (try with_reducible rfl))
                        simp only [List.getElem_toArray, List.getElem_cons_zero, List.getElem_cons_succ, Act.put, List.setIfInBounds_toArray, List.set_cons_zero, List.set_cons_succ]
                        refine wpAnyH_take (i := 7) (v := ?_) rfl (by kernel_rfl) (by kernel_rfl) (by kernel_rfl) (fun _ _ _ h => h) (Or.inl ⟨by rfl, ?_⟩) hS ?_
                        rotate_left
                        · (intro w hSw; (try dsimp only at hSw); go_simp; (try with_reducible rfl))
                        simp only [List.getElem_toArray, List.getElem_cons_zero, List.getElem_cons_succ, Act.put, List.setIfInBounds_toArray, List.set_cons_zero, List.set_cons_succ]
                        refine wpAnyH_take (i := 8) (v := ?_) rfl (by kernel_rfl) (by kernel_rfl) (by kernel_rfl) (fun _ _ _ h => h) (Or.inl ⟨by rfl, ?_⟩) hS ?_
                        rotate_left
                        · (intro w hSw; (try dsimp only at hSw); go_simp; (try with_reducible rfl))
                        simp only [List.getElem_toArray, List.getElem_cons_zero, List.getElem_cons_succ, Act.put, List.setIfInBounds_toArray, List.set_cons_zero, List.set_cons_succ]
                        refine wpAnyH_take (i := 9) (v := ?_) rfl (by kernel_rfl) (by kernel_rfl) (by kernel_rfl) (fun _ _ _ h => h) (Or.inl ⟨by rfl, ?_⟩) hS ?_
                        rotate_left
                        · (intro w hSw; (try dsimp only at hSw); go_simp; (try with_reducible rfl))
                        simp only [List.getElem_toArray, List.getElem_cons_zero, List.getElem_cons_succ, Act.put, List.setIfInBounds_toArray, List.set_cons_zero, List.set_cons_succ]
                        refine wpAnyH_take (i := 13) (v := ?_) rfl (by kernel_rfl) (by kernel_rfl) (by kernel_rfl) (fun _ _ _ h => h) (Or.inl ⟨by rfl, ?_⟩) hS ?_
                        rotate_left
                        · (intro w hSw; (try dsimp only at hSw); go_simp; (try with_reducible rfl))
                        simp only [List.getElem_toArray, List.getElem_cons_zero, List.getElem_cons_succ, Act.put, List.setIfInBounds_toArray, List.set_cons_zero, List.set_cons_succ]
                        refine wpAnyH_take (i := 14) (v := ?_) rfl (by kernel_rfl) (by kernel_rfl) (by kernel_rfl) (fun _ _ _ h => h) (Or.inl ⟨by rfl, ?_⟩) hS ?_
                        rotate_left
                        · (intro w hSw; (try dsimp only at hSw); go_simp; (try with_reducible rfl))
                        simp only [List.getElem_toArray, List.getElem_cons_zero, List.getElem_cons_succ, Act.put, List.setIfInBounds_toArray, List.set_cons_zero, List.set_cons_succ]
                        refine wpAnyH_take (i := 15) (v := ?_) rfl (by kernel_rfl) (by kernel_rfl) (by kernel_rfl) (fun _ _ _ h => h) (Or.inl ⟨by rfl, ?_⟩) hS ?_
                        rotate_left
                        · (intro w hSw; (try dsimp only at hSw); go_simp; (try with_reducible rfl))
                        simp only [List.getElem_toArray, List.getElem_cons_zero, List.getElem_cons_succ, Act.put, List.setIfInBounds_toArray, List.set_cons_zero, List.set_cons_succ]
                        refine wpAnyH_take (i := 16) (v := ?_) rfl (by kernel_rfl) (by kernel_rfl) (by kernel_rfl) (fun _ _ _ h => h) (Or.inl ⟨by rfl, ?_⟩) hS ?_
                        rotate_left
                        · (intro w hSw; (try dsimp only at hSw); go_simp; (try with_reducible rfl))
                        simp only [List.getElem_toArray, List.getElem_cons_zero, List.getElem_cons_succ, Act.put, List.setIfInBounds_toArray, List.set_cons_zero, List.set_cons_succ]
                        refine wpAnyH_take (i := 17) (v := ?_) rfl (by kernel_rfl) (by kernel_rfl) (by kernel_rfl) (fun _ _ _ h => h) (Or.inl ⟨by rfl, ?_⟩) hS ?_
                        rotate_left
                        · (intro w hSw; (try dsimp only at hSw); go_simp; (try with_reducible rfl))
                        simp only [List.getElem_toArray, List.getElem_cons_zero, List.getElem_cons_succ, Act.put, List.setIfInBounds_toArray, List.set_cons_zero, List.set_cons_succ]
                        refine wpAnyH_take (i := 18) (v := ?_) rfl (by kernel_rfl) (by kernel_rfl) (by kernel_rfl) (fun _ _ _ h => h) (Or.inl ⟨by rfl, ?_⟩) hS ?_
                        rotate_left
                        · (intro w hSw; (try dsimp only at hSw); go_simp; (try with_reducible rfl))
                        simp only [List.getElem_toArray, List.getElem_cons_zero, List.getElem_cons_succ, Act.put, List.setIfInBounds_toArray, List.set_cons_zero, List.set_cons_succ]
                        refine wpAnyH_take (i := 19) (v := ?_) rfl (by kernel_rfl) (by kernel_rfl) (by kernel_rfl) (fun _ _ _ h => h) (Or.inl ⟨by rfl, ?_⟩) hS ?_
                        rotate_left
                        · (intro w hSw; (try dsimp only at hSw); go_simp; (try with_reducible rfl))
                        simp only [List.getElem_toArray, List.getElem_cons_zero, List.getElem_cons_succ, Act.put, List.setIfInBounds_toArray, List.set_cons_zero, List.set_cons_succ]
                        refine wpAnyH_take (i := 20) (v := ?_) rfl (by kernel_rfl) (by kernel_rfl) (by kernel_rfl) (fun _ _ _ h => h) (Or.inl ⟨by rfl, ?_⟩) hS ?_
                        rotate_left
                        · (intro w hSw; (try dsimp only at hSw); go_simp; (try with_reducible rfl))
                        simp only [List.getElem_toArray, List.getElem_cons_zero, List.getElem_cons_succ, Act.put, List.setIfInBounds_toArray, List.set_cons_zero, List.set_cons_succ]
                        refine wpAnyH_take (i := 21) (v := ?_) rfl (by kernel_rfl) (by kernel_rfl) (by kernel_rfl) (fun _ _ _ h => h) (Or.inl ⟨by rfl, ?_⟩) hS ?_
                        rotate_left
                        · (intro w hSw; (try dsimp only at hSw); go_simp; (try with_reducible rfl))
                        simp only [List.getElem_toArray, List.getElem_cons_zero, List.getElem_cons_succ, Act.put, List.setIfInBounds_toArray, List.set_cons_zero, List.set_cons_succ]
                        refine wpAnyH_take (i := 22) (v := ?_) rfl (by kernel_rfl) (by kernel_rfl) (by kernel_rfl) (fun _ _ _ h => h) (Or.inl ⟨by rfl, ?_⟩) hS ?_
                        rotate_left
                        · (intro w hSw; (try dsimp only at hSw); go_simp; (try with_reducible rfl))
                        simp only [List.getElem_toArray, List.getElem_cons_zero, List.getElem_cons_succ, Act.put, List.setIfInBounds_toArray, List.set_cons_zero, List.set_cons_succ]
                        refine wpAnyH_ready (rs := [10]) (by kernel_rfl) (by simp) ?_
                        refine AllReadyH.cons rfl (fun K hK => ?_) AllReadyH.nil
                        go_simp
                        refine (end_walk (of i) (lf i) _ (Hof.out i) (Hlf.out i)).mono ?_
                        rintro e w1 ⟨rfl, rfl⟩
                        (try dsimp only)
                        refine hK.out _ _ ?_ (fun hS => ?_)
                        · (simp [go_sem, *])
                        clear hK K
                        refine wpAnyH_take (i := 11) (v := ?_) rfl (by kernel_rfl) (by kernel_rfl) (by kernel_rfl) (fun _ _ _ h => h) (Or.inl ⟨by rfl, ?_⟩) hS ?_
                        rotate_left
                        · (intro w hSw; (try dsimp only at hSw); go_simp; (try with_reducible rfl))
                        simp only [List.getElem_toArray, List.getElem_cons_zero, List.getElem_cons_succ, Act.put, List.setIfInBounds_toArray, List.set_cons_zero, List.set_cons_succ]
                        refine wpAnyH_take (i := 12) (v := ?_) rfl (by kernel_rfl) (by kernel_rfl) (by kernel_rfl) (fun _ _ _ h => h) (Or.inl ⟨by rfl, ?_⟩) hS ?_
                        rotate_left
                        · (intro w hSw; (try dsimp only at hSw); go_simp; (try with_reducible rfl))
                        simp only [List.getElem_toArray, List.getElem_cons_zero, List.getElem_cons_succ, Act.put, List.setIfInBounds_toArray, List.set_cons_zero, List.set_cons_succ]
                        refine wpAnyH_ready (rs := [23]) (by kernel_rfl) (by simp) ?_
                        refine AllReadyH.cons rfl (fun K hK => ?_) AllReadyH.nil
                        go_simp
                        refine (end_walk (of p) (lf p) _ (Hof.out p) (Hlf.out p)).mono ?_
                        rintro e w1 ⟨rfl, rfl⟩
                        (try dsimp only)
                        refine hK.out _ _ ?_ (fun hS => ?_)
                        · (simp [go_sem, *])
                        clear hK K
                        refine wpAnyH_take (i := 24) (v := ?_) rfl (by kernel_rfl) (by kernel_rfl) (by kernel_rfl) (fun _ _ _ h => h) (Or.inl ⟨by rfl, ?_⟩) hS ?_
                        rotate_left
                        · (intro w hSw; (try dsimp only at hSw); go_simp; (try with_reducible rfl))
                        simp only [List.getElem_toArray, List.getElem_cons_zero, List.getElem_cons_succ, Act.put, List.setIfInBounds_toArray, List.set_cons_zero, List.set_cons_succ]
                        refine wpAnyH_take (i := 25) (v := ?_) rfl (by kernel_rfl) (by kernel_rfl) (by kernel_rfl) (fun _ _ _ h => h) (Or.inl ⟨by rfl, ?_⟩) hS ?_
                        rotate_left
                        · (intro w hSw; (try dsimp only at hSw); go_simp; (try with_reducible rfl))
                        simp only [List.getElem_toArray, List.getElem_cons_zero, List.getElem_cons_succ, Act.put, List.setIfInBounds_toArray, List.set_cons_zero, List.set_cons_succ]
                        refine wpAnyH_ready (rs := [26]) (by kernel_rfl) (by simp) ?_
                        refine AllReadyH.cons rfl (fun K hK => ?_) AllReadyH.nil
                        go_simp
                        refine hK.out _ _ ?_ (fun hS => ?_)
                        · (simp [go_sem, *])
                        clear hK K
                        refine wpAnyH_ready (rs := [27]) (by kernel_rfl) (by simp) ?_
                        refine AllReadyH.cons rfl (fun K hK => ?_) AllReadyH.nil
                        go_simp
                        apply rows_value Ybaf.nextTurns
                        case hr => (go_simp; exact ⟨rfl, rfl⟩)
                        refine hK.out _ _ ?_ (fun hS => ?_)
                        · (simp [go_sem, *])
                        clear hK K
                        refine wpAnyH_ready (rs := [28]) (by kernel_rfl) (by simp) ?_
                        refine AllReadyH.cons rfl (fun K hK => ?_) AllReadyH.nil
                        go_simp
                        refine hK.out _ _ ?_ (fun hS => ?_)
                        · (simp [go_sem, *])
                        clear hK K
                        refine wpAnyH_ready (rs := [29]) (by kernel_rfl) (by simp) ?_
                        refine AllReadyH.cons rfl (fun K hK => ?_) AllReadyH.nil
                        go_simp
                        refine hK.out _ _ ?_ (fun hS => ?_)
                        · (simp [go_sem, *])
                        clear hK K
                        refine wpAnyH_done (by kernel_rfl) ?_ _
                        clear hS
                        gi_wp2_with (fail)
                        exact gone_out6 HCW.out HKW.out _ _ _ _ _ _ _ _ ⟨_, List.mem_append_right _ (List.mem_singleton.2 rfl), hx⟩
                      · go_simp
                        refine hK.out _ _ ?_ (fun hS => ?_)
                        · (simp [go_sem, *])
                        clear hK K
                        refine wpAnyH_ready (rs := [8]) (by kernel_rfl) (by simp) ?_
                        refine AllReadyH.cons rfl (fun K hK => ?_) AllReadyH.nil
                        go_simp
                        refine hK.out _ _ ?_ (fun hS => ?_)
                        · (simp [go_sem, *])
                        clear hK K
                        refine wpAnyH_ready (rs := [10]) (by kernel_rfl) (by simp) ?_
                        refine AllReadyH.cons rfl (fun K hK => ?_) AllReadyH.nil
                        go_simp
                        refine hK.out _ _ ?_ (fun hS => ?_)
                        · (simp [go_sem, *])
                        clear hK K
                        refine wpAnyH_ready (rs := [11]) (by kernel_rfl) (by simp) ?_
                        refine AllReadyH.cons rfl (fun K hK => ?_) AllReadyH.nil
                        go_simp
                        refine hK.out _ _ ?_ (fun hS => ?_)
                        · (simp [go_sem, *])
                        clear hK K
                        refine wpAnyH_done (by kernel_rfl) ?_ _
                        clear hS
                        gi_wp2_with (fail)
                        refine region_round (S := fun w' : World => w'.cell? ⟨W.heap.size + 1, 0, none⟩ = some (.int .i64 (of i)) ∧ w'.cell? ⟨W.heap.size, 0, none⟩ = some (.int .i64 (of p)) ∧ w'.cell? ⟨W.heap.size, 1, none⟩ = some (.int .i64 (lf p))) (by kernel_rfl) (by rintro ⟨_, _, h⟩; exact h) (by kernel_rfl) ?_
                        have hS : (fun w' : World => w'.cell? ⟨W.heap.size + 1, 0, none⟩ = some (.int .i64 (of i)) ∧ w'.cell? ⟨W.heap.size, 0, none⟩ = some (.int .i64 (of p)) ∧ w'.cell? ⟨W.heap.size, 1, none⟩ = some (.int .i64 (lf p))) (((W.alloc (.cells #[.int .i64 (of p), .int .i64 (lf p)] 56)).alloc (.cells #[.int .i64 (of i), .int .i64 (lf i)] 56)).drew).drew := by simp [go_sem, *]
                        refine wpAnyH_take (i := 0) (v := ?_) rfl (by kernel_rfl) (by kernel_rfl) (by kernel_rfl) (fun _ _ _ h => h) (Or.inl ⟨by rfl, ?_⟩) hS ?_
                        rotate_left
                        · (intro w hSw; (try dsimp only at hSw); go_simp; (try with_reducible rfl))
                        simp only [List.getElem_toArray, List.getElem_cons_zero, List.getElem_cons_succ, Act.put, List.setIfInBounds_toArray, List.set_cons_zero, List.set_cons_succ]
                        refine wpAnyH_take (i := 1) (v := ?_) rfl (by kernel_rfl) (by kernel_rfl) (by kernel_rfl) (fun _ _ _ h => h) (Or.inl ⟨by rfl, ?_⟩) hS ?_
                        rotate_left
                        · (intro w hSw; (try dsimp only at hSw); go_simp; (try with_reducible rfl))
                        simp only [List.getElem_toArray, List.getElem_cons_zero, List.getElem_cons_succ, Act.put, List.setIfInBounds_toArray, List.set_cons_zero, List.set_cons_succ]
                        refine wpAnyH_take (i := 2) (v := ?_) rfl (by kernel_rfl) (by kernel_rfl) (by kernel_rfl) (fun _ _ _ h => h) (Or.inl ⟨by rfl, ?_⟩) hS ?_
                        rotate_left
                        · (intro w hSw; (try dsimp only at hSw); go_simp; (try with_reducible rfl))
                        simp only [List.getElem_toArray, List.getElem_cons_zero, List.getElem_cons_succ, Act.put, List.setIfInBounds_toArray, List.set_cons_zero, List.set_cons_succ]
                        refine wpAnyH_ready (rs := [3]) (by kernel_rfl) (by simp) ?_
                        refine AllReadyH.cons rfl (fun K hK => ?_) AllReadyH.nil
                        go_simp
                        refine (end_walk (of p) (lf p) _ (Hof.out p) (Hlf.out p)).mono ?_
                        rintro e w1 ⟨rfl, rfl⟩
                        (try dsimp only)
                        refine hK.out _ _ ?_ (fun hS => ?_)
                        · (simp [go_sem, *])
                        clear hK K
                        refine wpAnyH_take (i := 4) (v := ?_) rfl (by kernel_rfl) (by kernel_rfl) (by kernel_rfl) (fun _ _ _ h => h) (Or.inl ⟨by rfl, ?_⟩) hS ?_
                        rotate_left
                        · (intro w hSw; (try dsimp only at hSw); go_simp; (try with_reducible rfl))
                        simp only [List.getElem_toArray, List.getElem_cons_zero, List.getElem_cons_succ, Act.put, List.setIfInBounds_toArray, List.set_cons_zero, List.set_cons_succ]
                        refine wpAnyH_done (by kernel_rfl) ?_ _
                        clear hS
                        gi_wp2_with (fail)
                        refine region_round (S := fun w' : World => w'.cell? ⟨w.heap.size, 0, none⟩ = some (.slice (some ⟨gp, 0, none⟩) k2 cp) ∧ w'.cell? ⟨gp, i * 2, none⟩ = some (.string vS) ∧ w'.cell? ⟨gp, p * 2, none⟩ = some (.string vS) ∧ w'.cell? ⟨W.heap.size + 1, 0, none⟩ = some (.int .i64 (of i)) ∧ w'.cell? ⟨W.heap.size + 1, 1, none⟩ = some (.int .i64 (lf i)) ∧ w'.cell? ⟨W.heap.size, 0, none⟩ = some (.int .i64 (of p)) ∧ w'.cell? ⟨W.heap.size, 1, none⟩ = some (.int .i64 (lf p))) (by kernel_rfl) (by rintro ⟨_, _, h⟩; exact h) (by kernel_rfl) ?_
                        have hS : (fun w' : World => w'.cell? ⟨w.heap.size, 0, none⟩ = some (.slice (some ⟨gp, 0, none⟩) k2 cp) ∧ w'.cell? ⟨gp, i * 2, none⟩ = some (.string vS) ∧ w'.cell? ⟨gp, p * 2, none⟩ = some (.string vS) ∧ w'.cell? ⟨W.heap.size + 1, 0, none⟩ = some (.int .i64 (of i)) ∧ w'.cell? ⟨W.heap.size + 1, 1, none⟩ = some (.int .i64 (lf i)) ∧ w'.cell? ⟨W.heap.size, 0, none⟩ = some (.int .i64 (of p)) ∧ w'.cell? ⟨W.heap.size, 1, none⟩ = some (.int .i64 (lf p))) ((((W.alloc (.cells #[.int .i64 (of p), .int .i64 (lf p)] 56)).alloc (.cells #[.int .i64 (of i), .int .i64 (lf i)] 56)).alloc (.cells #[.int .i64 (of p), .int .i64 (lf p)] 56)).drew.drew).drew := by simp [go_sem, *]
                        refine wpAnyH_take (i := 0) (v := ?_) rfl (by kernel_rfl) (by kernel_rfl) (by kernel_rfl) (fun _ _ _ h => h) (Or.inl ⟨by rfl, ?_⟩) hS ?_
                        rotate_left
                        · (intro w hSw; (try dsimp only at hSw); go_simp; (try with_reducible rfl))
                        simp only [List.getElem_toArray, List.getElem_cons_zero, List.getElem_cons_succ, Act.put, List.setIfInBounds_toArray, List.set_cons_zero, List.set_cons_succ]
                        refine wpAnyH_take (i := 1) (v := ?_) rfl (by kernel_rfl) (by kernel_rfl) (by kernel_rfl) (fun _ _ _ h => h) (Or.inl ⟨by rfl, ?_⟩) hS ?_
                        rotate_left
                        · (intro w hSw; (try dsimp only at hSw); go_simp; (try with_reducible rfl))
                        simp only [List.getElem_toArray, List.getElem_cons_zero, List.getElem_cons_succ, Act.put, List.setIfInBounds_toArray, List.set_cons_zero, List.set_cons_succ]
                        refine wpAnyH_take (i := 2) (v := ?_) rfl (by kernel_rfl) (by kernel_rfl) (by kernel_rfl) (fun _ _ _ h => h) (Or.inl ⟨by rfl, ?_⟩) hS ?_
                        rotate_left
                        · (intro w hSw; (try dsimp only at hSw); go_simp; (try with_reducible rfl))
                        simp only [List.getElem_toArray, List.getElem_cons_zero, List.getElem_cons_succ, Act.put, List.setIfInBounds_toArray, List.set_cons_zero, List.set_cons_succ]
                        refine wpAnyH_take (i := 3) (v := ?_) rfl (by kernel_rfl) (by kernel_rfl) (by kernel_rfl) (fun _ _ _ h => h) (Or.inl ⟨by rfl, ?_⟩) hS ?_
                        rotate_left
                        · (intro w hSw; (try dsimp only at hSw); go_simp; (try with_reducible rfl))
                        simp only [List.getElem_toArray, List.getElem_cons_zero, List.getElem_cons_succ, Act.put, List.setIfInBounds_toArray, List.set_cons_zero, List.set_cons_succ]
                        refine wpAnyH_take (i := 4) (v := ?_) rfl (by kernel_rfl) (by kernel_rfl) (by kernel_rfl) (fun _ _ _ h => h) (Or.inl ⟨by rfl, ?_⟩) hS ?_
                        rotate_left
                        · (intro w hSw; (try dsimp only at hSw); go_simp; (try with_reducible rfl))
                        simp only [List.getElem_toArray, List.getElem_cons_zero, List.getElem_cons_succ, Act.put, List.setIfInBounds_toArray, List.set_cons_zero, List.set_cons_succ]
                        refine wpAnyH_take (i := 5) (v := ?_) rfl (by kernel_rfl) (by kernel_rfl) (by kernel_rfl) (fun _ _ _ h => h) (Or.inl ⟨by rfl, ?_⟩) hS ?_
                        rotate_left
                        · (intro w hSw; (try dsimp only at hSw); go_simp; (try with_reducible rfl))
                        simp only [List.getElem_toArray, List.getElem_cons_zero, List.getElem_cons_succ, Act.put, List.setIfInBounds_toArray, List.set_cons_zero, List.set_cons_succ]
                        refine wpAnyH_take (i := 6) (v := ?_) rfl (by kernel_rfl) (by kernel_rfl) (by kernel_rfl) (fun _ _ _ h => h) (Or.inl ⟨by rfl, ?_⟩) hS ?_
                        rotate_left
                        · (intro w hSw; (try dsimp only at hSw); go_simp; (try with_reducible rfl))
                        simp only [List.getElem_toArray, List.getElem_cons_zero, List.getElem_cons_succ, Act.put, List.setIfInBounds_toArray, List.set_cons_zero, List.set_cons_succ]
                        refine wpAnyH_take (i := 7) (v := ?_) rfl (by kernel_rfl) (by kernel_rfl) (by kernel_rfl) (fun _ _ _ h => h) (Or.inl ⟨by rfl, ?_⟩) hS ?_
                        rotate_left
                        · (intro w hSw; (try dsimp only at hSw); go_simp; (try with_reducible rfl))
                        simp only [List.getElem_toArray, List.getElem_cons_zero, List.getElem_cons_succ, Act.put, List.setIfInBounds_toArray, List.set_cons_zero, List.set_cons_succ]
                        refine wpAnyH_take (i := 8) (v := ?_) rfl (by kernel_rfl) (by kernel_rfl) (by kernel_rfl) (fun _ _ _ h => h) (Or.inl ⟨by rfl, ?_⟩) hS ?_
                        rotate_left
                        · (intro w hSw; (try dsimp only at hSw); go_simp; (try with_reducible rfl))
                        simp only [List.getElem_toArray, List.getElem_cons_zero, List.getElem_cons_succ, Act.put, List.setIfInBounds_toArray, List.set_cons_zero, List.set_cons_succ]
                        refine wpAnyH_take (i := 9) (v := ?_) rfl (by kernel_rfl) (by kernel_rfl) (by kernel_rfl) (fun _ _ _ h => h) (Or.inl ⟨by rfl, ?_⟩) hS ?_
                        rotate_left
                        · (intro w hSw; (try dsimp only at hSw); go_simp; (try with_reducible rfl))
                        simp only [List.getElem_toArray, List.getElem_cons_zero, List.getElem_cons_succ, Act.put, List.setIfInBounds_toArray, List.set_cons_zero, List.set_cons_succ]
                        refine wpAnyH_take (i := 13) (v := ?_) rfl (by kernel_rfl) (by kernel_rfl) (by kernel_rfl) (fun _ _ _ h => h) (Or.inl ⟨by rfl, ?_⟩) hS ?_
                        rotate_left
                        · (intro w hSw; (try dsimp only at hSw); go_simp; (try with_reducible rfl))
                        simp only [List.getElem_toArray, List.getElem_cons_zero, List.getElem_cons_succ, Act.put, List.setIfInBounds_toArray, List.set_cons_zero, List.set_cons_succ]
                        refine wpAnyH_take (i := 14) (v := ?_) rfl (by kernel_rfl) (by kernel_rfl) (by kernel_rfl) (fun _ _ _ h => h) (Or.inl ⟨by rfl, ?_⟩) hS ?_
                        rotate_left
                        · (intro w hSw; (try dsimp only at hSw); go_simp; (try with_reducible rfl))
                        simp only [List.getElem_toArray, List.getElem_cons_zero, List.getElem_cons_succ, Act.put, List.setIfInBounds_toArray, List.set_cons_zero, List.set_cons_succ]
                        refine wpAnyH_take (i := 15) (v := ?_) rfl (by kernel_rfl) (by kernel_rfl) (by kernel_rfl) (fun _ _ _ h => h) (Or.inl ⟨by rfl, ?_⟩) hS ?_
                        rotate_left
                        · (intro w hSw; (try dsimp only at hSw); go_simp; (try with_reducible rfl))
                        simp only [List.getElem_toArray, List.getElem_cons_zero, List.getElem_cons_succ, Act.put, List.setIfInBounds_toArray, List.set_cons_zero, List.set_cons_succ]
                        refine wpAnyH_take (i := 16) (v := ?_) rfl (by kernel_rfl) (by kernel_rfl) (by kernel_rfl) (fun _ _ _ h => h) (Or.inl ⟨by rfl, ?_⟩) hS ?_
                        rotate_left
                        · (intro w hSw; (try dsimp only at hSw); go_simp; (try with_reducible rfl))
                        simp only [List.getElem_toArray, List.getElem_cons_zero, List.getElem_cons_succ, Act.put, List.setIfInBounds_toArray, List.set_cons_zero, List.set_cons_succ]
                        refine wpAnyH_take (i := 17) (v := ?_) rfl (by kernel_rfl) (by kernel_rfl) (by kernel_rfl) (fun _ _ _ h => h) (Or.inl ⟨by rfl, ?_⟩) hS ?_
                        rotate_left
                        · (intro w hSw; (try dsimp only at hSw); go_simp; (try with_reducible rfl))
                        simp only [List.getElem_toArray, List.getElem_cons_zero, List.getElem_cons_succ, Act.put, List.setIfInBounds_toArray, List.set_cons_zero, List.set_cons_succ]
                        refine wpAnyH_take (i := 18) (v := ?_) rfl (by kernel_rfl) (by kernel_rfl) (by kernel_rfl) (fun _ _ _ h => h) (Or.inl ⟨by rfl, ?_⟩) hS ?_
                        rotate_left
                        · (intro w hSw; (try dsimp only at hSw); go_simp; (try with_reducible rfl))
                        simp only [List.getElem_toArray, List.getElem_cons_zero, List.getElem_cons_succ, Act.put, List.setIfInBounds_toArray, List.set_cons_zero, List.set_cons_succ]
                        refine wpAnyH_take (i := 19) (v := ?_) rfl (by kernel_rfl) (by kernel_rfl) (by kernel_rfl) (fun _ _ _ h => h) (Or.inl ⟨by rfl, ?_⟩) hS ?_
                        rotate_left
                        · (intro w hSw; (try dsimp only at hSw); go_simp; (try with_reducible rfl))
                        simp only [List.getElem_toArray, List.getElem_cons_zero, List.getElem_cons_succ, Act.put, List.setIfInBounds_toArray, List.set_cons_zero, List.set_cons_succ]
                        refine wpAnyH_take (i := 20) (v := ?_) rfl (by kernel_rfl) (by kernel_rfl) (by kernel_rfl) (fun _ _ _ h => h) (Or.inl ⟨by rfl, ?_⟩) hS ?_
                        rotate_left
                        · (intro w hSw; (try dsimp only at hSw); go_simp; (try with_reducible rfl))
                        simp only [List.getElem_toArray, List.getElem_cons_zero, List.getElem_cons_succ, Act.put, List.setIfInBounds_toArray, List.set_cons_zero, List.set_cons_succ]
                        refine wpAnyH_take (i := 21) (v := ?_) rfl (by kernel_rfl) (by kernel_rfl) (by kernel_rfl) (fun _ _ _ h => h) (Or.inl ⟨by rfl, ?_⟩) hS ?_
                        rotate_left
                        · (intro w hSw; (try dsimp only at hSw); go_simp; (try with_reducible rfl))
                        simp only [List.getElem_toArray, List.getElem_cons_zero, List.getElem_cons_succ, Act.put, List.setIfInBounds_toArray, List.set_cons_zero, List.set_cons_succ]
                        refine wpAnyH_take (i := 22) (v := ?_) rfl (by kernel_rfl) (by kernel_rfl) (by kernel_rfl) (fun _ _ _ h => h) (Or.inl ⟨by rfl, ?_⟩) hS ?_
                        rotate_left
                        · (intro w hSw; (try dsimp only at hSw); go_simp; (try with_reducible rfl))
                        simp only [List.getElem_toArray, List.getElem_cons_zero, List.getElem_cons_succ, Act.put, List.setIfInBounds_toArray, List.set_cons_zero, List.set_cons_succ]
                        refine wpAnyH_ready (rs := [10]) (by kernel_rfl) (by simp) ?_
                        refine AllReadyH.cons rfl (fun K hK => ?_) AllReadyH.nil
                        go_simp
                        refine (end_walk (of i) (lf i) _ (Hof.out i) (Hlf.out i)).mono ?_
                        rintro e w1 ⟨rfl, rfl⟩
                        (try dsimp only)
                        refine hK.out _ _ ?_ (fun hS => ?_)
                        · (simp [go_sem, *])
                        clear hK K
                        refine wpAnyH_take (i := 11) (v := ?_) rfl (by kernel_rfl) (by kernel_rfl) (by kernel_rfl) (fun _ _ _ h => h) (Or.inl ⟨by rfl, ?_⟩) hS ?_
                        rotate_left
                        · (intro w hSw; (try dsimp only at hSw); go_simp; (try with_reducible rfl))
                        simp only [List.getElem_toArray, List.getElem_cons_zero, List.getElem_cons_succ, Act.put, List.setIfInBounds_toArray, List.set_cons_zero, List.set_cons_succ]
                        refine wpAnyH_take (i := 12) (v := ?_) rfl (by kernel_rfl) (by kernel_rfl) (by kernel_rfl) (fun _ _ _ h => h) (Or.inl ⟨by rfl, ?_⟩) hS ?_
                        rotate_left
                        · (intro w hSw; (try dsimp only at hSw); go_simp; (try with_reducible rfl))
                        simp only [List.getElem_toArray, List.getElem_cons_zero, List.getElem_cons_succ, Act.put, List.setIfInBounds_toArray, List.set_cons_zero, List.set_cons_succ]
                        refine wpAnyH_ready (rs := [23]) (by kernel_rfl) (by simp) ?_
                        refine AllReadyH.cons rfl (fun K hK => ?_) AllReadyH.nil
                        go_simp
                        refine (end_walk (of p) (lf p) _ (Hof.out p) (Hlf.out p)).mono ?_
                        rintro e w1 ⟨rfl, rfl⟩
                        (try dsimp only)
                        refine hK.out _ _ ?_ (fun hS => ?_)
                        · (simp [go_sem, *])
                        clear hK K
                        refine wpAnyH_take (i := 24) (v := ?_) rfl (by kernel_rfl) (by kernel_rfl) (by kernel_rfl) (fun _ _ _ h => h) (Or.inl ⟨by rfl, ?_⟩) hS ?_
                        rotate_left
                        · (intro w hSw; (try dsimp only at hSw); go_simp; (try with_reducible rfl))
                        simp only [List.getElem_toArray, List.getElem_cons_zero, List.getElem_cons_succ, Act.put, List.setIfInBounds_toArray, List.set_cons_zero, List.set_cons_succ]
                        refine wpAnyH_take (i := 25) (v := ?_) rfl (by kernel_rfl) (by kernel_rfl) (by kernel_rfl) (fun _ _ _ h => h) (Or.inl ⟨by rfl, ?_⟩) hS ?_
                        rotate_left
                        · (intro w hSw; (try dsimp only at hSw); go_simp; (try with_reducible rfl))
                        simp only [List.getElem_toArray, List.getElem_cons_zero, List.getElem_cons_succ, Act.put, List.setIfInBounds_toArray, List.set_cons_zero, List.set_cons_succ]
                        refine wpAnyH_ready (rs := [26]) (by kernel_rfl) (by simp) ?_
                        refine AllReadyH.cons rfl (fun K hK => ?_) AllReadyH.nil
                        go_simp
                        refine hK.out _ _ ?_ (fun hS => ?_)
                        · (simp [go_sem, *])
                        clear hK K
                        refine wpAnyH_ready (rs := [27]) (by kernel_rfl) (by simp) ?_
                        refine AllReadyH.cons rfl (fun K hK => ?_) AllReadyH.nil
                        go_simp
                        apply rows_value Ybaf.nextTurns
                        case hr => (go_simp; exact ⟨rfl, rfl⟩)
                        refine hK.out _ _ ?_ (fun hS => ?_)
                        · (simp [go_sem, *])
                        clear hK K
                        refine wpAnyH_ready (rs := [28]) (by kernel_rfl) (by simp) ?_
                        refine AllReadyH.cons rfl (fun K hK => ?_) AllReadyH.nil
                        go_simp
                        refine hK.out _ _ ?_ (fun hS => ?_)
                        · (simp [go_sem, *])
                        clear hK K
                        refine wpAnyH_ready (rs := [29]) (by kernel_rfl) (by simp) ?_
                        refine AllReadyH.cons rfl (fun K hK => ?_) AllReadyH.nil
                        go_simp
                        refine hK.out _ _ ?_ (fun hS => ?_)
                        · (simp [go_sem, *])
                        clear hK K
                        refine wpAnyH_done (by kernel_rfl) ?_ _
                        clear hS
                        gi_wp2_with (fail)
                        exact gone_out6 HCW.out HKW.out _ _ _ _ _ _ _ _ ⟨_, List.mem_append_right _ (List.mem_singleton.2 rfl), hx⟩
                    · have Hnew : Hid (∀ y ∈ pre ++ [(⟨(i, p), hi, hp⟩ : PR k2)], ¬ q4 of lf y) := fun y hy => by
                        rcases List.mem_append.1 hy with h | h
                        · exact Hpre.out y h
                        · simp at h; subst h; exact hx
                      gi_wp2_with (fail)
                      refine region_round (S := fun w' : World => w'.cell? ⟨w.heap.size + 1 + 1 + 1 + 1, 0, none⟩ = some (.slice (some ⟨g, 0, none⟩) k2 cap) ∧ w'.cell? ⟨g, i * 2, none⟩ = some (.int .i64 (of i)) ∧ w'.cell? ⟨g, i * 2 + 1, none⟩ = some (.int .i64 (lf i)) ∧ w'.cell? ⟨g, p * 2, none⟩ = some (.int .i64 (of p)) ∧ w'.cell? ⟨g, p * 2 + 1, none⟩ = some (.int .i64 (lf p))) (by kernel_rfl) (by rintro ⟨_, _, h⟩; exact h) (by kernel_rfl) ?_
                      have hS : (fun w' : World => w'.cell? ⟨w.heap.size + 1 + 1 + 1 + 1, 0, none⟩ = some (.slice (some ⟨g, 0, none⟩) k2 cap) ∧ w'.cell? ⟨g, i * 2, none⟩ = some (.int .i64 (of i)) ∧ w'.cell? ⟨g, i * 2 + 1, none⟩ = some (.int .i64 (lf i)) ∧ w'.cell? ⟨g, p * 2, none⟩ = some (.int .i64 (of p)) ∧ w'.cell? ⟨g, p * 2 + 1, none⟩ = some (.int .i64 (lf p))) (W).drew := ⟨c9, ci0, ci1, cp0, cp1⟩
                      refine wpAnyH_take (i := 0) (v := ?_) rfl (by kernel_rfl) (by kernel_rfl) (by kernel_rfl) (fun _ _ _ h => h) (Or.inl ⟨by rfl, ?_⟩) hS ?_
                      rotate_left
                      · (intro w hSw; (try dsimp only at hSw); go_simp; (try with_reducible rfl))
                      simp only [List.getElem_toArray, List.getElem_cons_zero, List.getElem_cons_succ, Act.put, List.setIfInBounds_toArray, List.set_cons_zero, List.set_cons_succ]
                      refine wpAnyH_take (i := 1) (v := ?_) rfl (by kernel_rfl) (by kernel_rfl) (by kernel_rfl) (fun _ _ _ h => h) (Or.inl ⟨by rfl, ?_⟩) hS ?_
                      rotate_left
                      · (intro w hSw; (try dsimp only at hSw); go_simp; (try with_reducible rfl))
                      simp only [List.getElem_toArray, List.getElem_cons_zero, List.getElem_cons_succ, Act.put, List.setIfInBounds_toArray, List.set_cons_zero, List.set_cons_succ]
                      refine wpAnyH_take (i := 2) (v := ?_) rfl (by kernel_rfl) (by kernel_rfl) (by kernel_rfl) (fun _ _ _ h => h) (Or.inl ⟨by rfl, ?_⟩) hS ?_
                      rotate_left
                      · (intro w hSw; (try dsimp only at hSw); go_simp; (try with_reducible rfl))
                      simp only [List.getElem_toArray, List.getElem_cons_zero, List.getElem_cons_succ, Act.put, List.setIfInBounds_toArray, List.set_cons_zero, List.set_cons_succ]
                      refine wpAnyH_take (i := 3) (v := ?_) rfl (by kernel_rfl) (by kernel_rfl) (by kernel_rfl) (fun _ _ _ h => h) (Or.inl ⟨by rfl, ?_⟩) hS ?_
                      rotate_left
                      · (intro w hSw; (try dsimp only at hSw); go_simp; (try with_reducible rfl))
                      simp only [List.getElem_toArray, List.getElem_cons_zero, List.getElem_cons_succ, Act.put, List.setIfInBounds_toArray, List.set_cons_zero, List.set_cons_succ]
                      refine wpAnyH_take (i := 4) (v := ?_) rfl (by kernel_rfl) (by kernel_rfl) (by kernel_rfl) (fun _ _ _ h => h) (Or.inl ⟨by rfl, ?_⟩) hS ?_
                      rotate_left
                      · (intro w hSw; (try dsimp only at hSw); go_simp; (try with_reducible rfl))
                      simp only [List.getElem_toArray, List.getElem_cons_zero, List.getElem_cons_succ, Act.put, List.setIfInBounds_toArray, List.set_cons_zero, List.set_cons_succ]
                      refine wpAnyH_take (i := 5) (v := ?_) rfl (by kernel_rfl) (by kernel_rfl) (by kernel_rfl) (fun _ _ _ h => h) (Or.inl ⟨by rfl, ?_⟩) hS ?_
                      rotate_left
                      · (intro w hSw; (try dsimp only at hSw); go_simp; (try with_reducible rfl))
                      simp only [List.getElem_toArray, List.getElem_cons_zero, List.getElem_cons_succ, Act.put, List.setIfInBounds_toArray, List.set_cons_zero, List.set_cons_succ]
                      refine wpAnyH_take (i := 6) (v := ?_) rfl (by kernel_rfl) (by kernel_rfl) (by kernel_rfl) (fun _ _ _ h => h) (Or.inl ⟨by rfl, ?_⟩) hS ?_
                      rotate_left
                      · (intro w hSw; (try dsimp only at hSw); go_simp; (try with_reducible rfl))
                      simp only [List.getElem_toArray, List.getElem_cons_zero, List.getElem_cons_succ, Act.put, List.setIfInBounds_toArray, List.set_cons_zero, List.set_cons_succ]
                      refine wpAnyH_take (i := 7) (v := ?_) rfl (by kernel_rfl) (by kernel_rfl) (by kernel_rfl) (fun _ _ _ h => h) (Or.inl ⟨by rfl, ?_⟩) hS ?_
                      rotate_left
                      · (intro w hSw; (try dsimp only at hSw); go_simp; (try with_reducible rfl))
                      simp only [List.getElem_toArray, List.getElem_cons_zero, List.getElem_cons_succ, Act.put, List.setIfInBounds_toArray, List.set_cons_zero, List.set_cons_succ]
                      refine wpAnyH_ready (rs := [8, 9]) (by kernel_rfl) (by simp) ?_
                      refine AllReadyH.cons rfl (fun K hK => ?_) (AllReadyH.cons rfl (fun K hK => ?_) AllReadyH.nil)
                      · go_simp
                        refine hK.out _ _ ?_ (fun hS => ?_)
                        · (simp [go_sem, *])
                        clear hK K
                        refine wpAnyH_ready (rs := [9]) (by kernel_rfl) (by simp) ?_
                        refine AllReadyH.cons rfl (fun K hK => ?_) AllReadyH.nil
                        go_simp
                        refine hK.out _ _ ?_ (fun hS => ?_)
                        · (simp [go_sem, *])
                        clear hK K
                        refine wpAnyH_ready (rs := [10]) (by kernel_rfl) (by simp) ?_
                        refine AllReadyH.cons rfl (fun K hK => ?_) AllReadyH.nil
                        go_simp
                        refine hK.out _ _ ?_ (fun hS => ?_)
                        · (simp [go_sem, *])
                        clear hK K
                        refine wpAnyH_ready (rs := [11]) (by kernel_rfl) (by simp) ?_
                        refine AllReadyH.cons rfl (fun K hK => ?_) AllReadyH.nil
                        go_simp
                        refine hK.out _ _ ?_ (fun hS => ?_)
                        · (simp [go_sem, *])
                        clear hK K
                        refine wpAnyH_done (by kernel_rfl) ?_ _
                        clear hS
                        gi_wp2_with (fail)
                        refine region_round (S := fun w' : World => w'.cell? ⟨W.heap.size, 0, none⟩ = some (.int .i64 (of i)) ∧ w'.cell? ⟨W.heap.size + 1, 0, none⟩ = some (.int .i64 (of p)) ∧ w'.cell? ⟨W.heap.size + 1, 1, none⟩ = some (.int .i64 (lf p))) (by kernel_rfl) (by rintro ⟨_, _, h⟩; exact h) (by kernel_rfl) ?_
                        have hS : (fun w' : World => w'.cell? ⟨W.heap.size, 0, none⟩ = some (.int .i64 (of i)) ∧ w'.cell? ⟨W.heap.size + 1, 0, none⟩ = some (.int .i64 (of p)) ∧ w'.cell? ⟨W.heap.size + 1, 1, none⟩ = some (.int .i64 (lf p))) (((W.alloc (.cells #[.int .i64 (of i), .int .i64 (lf i)] 56)).alloc (.cells #[.int .i64 (of p), .int .i64 (lf p)] 56)).drew).drew := by simp [go_sem, *]
                        refine wpAnyH_take (i := 0) (v := ?_) rfl (by kernel_rfl) (by kernel_rfl) (by kernel_rfl) (fun _ _ _ h => h) (Or.inl ⟨by rfl, ?_⟩) hS ?_
                        rotate_left
                        · (intro w hSw; (try dsimp only at hSw); go_simp; (try with_reducible rfl))
                        simp only [List.getElem_toArray, List.getElem_cons_zero, List.getElem_cons_succ, Act.put, List.setIfInBounds_toArray, List.set_cons_zero, List.set_cons_succ]
                        refine wpAnyH_take (i := 1) (v := ?_) rfl (by kernel_rfl) (by kernel_rfl) (by kernel_rfl) (fun _ _ _ h => h) (Or.inl ⟨by rfl, ?_⟩) hS ?_
                        rotate_left
                        · (intro w hSw; (try dsimp only at hSw); go_simp; (try with_reducible rfl))
                        simp only [List.getElem_toArray, List.getElem_cons_zero, List.getElem_cons_succ, Act.put, List.setIfInBounds_toArray, List.set_cons_zero, List.set_cons_succ]
                        refine wpAnyH_take (i := 2) (v := ?_) rfl (by kernel_rfl) (by kernel_rfl) (by kernel_rfl) (fun _ _ _ h => h) (Or.inl ⟨by rfl, ?_⟩) hS ?_
                        rotate_left
                        · (intro w hSw; (try dsimp only at hSw); go_simp; (try with_reducible rfl))
                        simp only [List.getElem_toArray, List.getElem_cons_zero, List.getElem_cons_succ, Act.put, List.setIfInBounds_toArray, List.set_cons_zero, List.set_cons_succ]
                        refine wpAnyH_ready (rs := [3]) (by kernel_rfl) (by simp) ?_
                        refine AllReadyH.cons rfl (fun K hK => ?_) AllReadyH.nil
                        go_simp
                        refine (end_walk (of p) (lf p) _ (Hof.out p) (Hlf.out p)).mono ?_
                        rintro e w1 ⟨rfl, rfl⟩
                        (try dsimp only)
                        refine hK.out _ _ ?_ (fun hS => ?_)
                        · (simp [go_sem, *])
                        clear hK K
                        refine wpAnyH_take (i := 4) (v := ?_) rfl (by kernel_rfl) (by kernel_rfl) (by kernel_rfl) (fun _ _ _ h => h) (Or.inl ⟨by rfl, ?_⟩) hS ?_
                        rotate_left
                        · (intro w hSw; (try dsimp only at hSw); go_simp; (try with_reducible rfl))
                        simp only [List.getElem_toArray, List.getElem_cons_zero, List.getElem_cons_succ, Act.put, List.setIfInBounds_toArray, List.set_cons_zero, List.set_cons_succ]
                        refine wpAnyH_done (by kernel_rfl) ?_ _
                        clear hS
                        gi_wp2_with (fail)
                        exact ⟨(((KeepsOthers.alloc _ _).trans (KeepsOthers.alloc _ _)).trans (KeepsOthers.alloc _ _)).trans ((KeepsOthers.drew _).trans (KeepsOthers.drew _)), HB2.out _ _ _, Hnew.out, HBW.out.trans (HB2.out _ _ _)⟩
                      · go_simp
                        refine hK.out _ _ ?_ (fun hS => ?_)
                        · (simp [go_sem, *])
                        clear hK K
                        refine wpAnyH_ready (rs := [8]) (by kernel_rfl) (by simp) ?_
                        refine AllReadyH.cons rfl (fun K hK => ?_) AllReadyH.nil
                        go_simp
                        refine hK.out _ _ ?_ (fun hS => ?_)
                        · (simp [go_sem, *])
                        clear hK K
                        refine wpAnyH_ready (rs := [10]) (by kernel_rfl) (by simp) ?_
                        refine AllReadyH.cons rfl (fun K hK => ?_) AllReadyH.nil
                        go_simp
                        refine hK.out _ _ ?_ (fun hS => ?_)
                        · (simp [go_sem, *])
                        clear hK K
                        refine wpAnyH_ready (rs := [11]) (by kernel_rfl) (by simp) ?_
                        refine AllReadyH.cons rfl (fun K hK => ?_) AllReadyH.nil
                        go_simp
                        refine hK.out _ _ ?_ (fun hS => ?_)
                        · (simp [go_sem, *])
                        clear hK K
                        refine wpAnyH_done (by kernel_rfl) ?_ _
                        clear hS
                        gi_wp2_with (fail)
                        refine region_round (S := fun w' : World => w'.cell? ⟨W.heap.size + 1, 0, none⟩ = some (.int .i64 (of i)) ∧ w'.cell? ⟨W.heap.size, 0, none⟩ = some (.int .i64 (of p)) ∧ w'.cell? ⟨W.heap.size, 1, none⟩ = some (.int .i64 (lf p))) (by kernel_rfl) (by rintro ⟨_, _, h⟩; exact h) (by kernel_rfl) ?_
                        have hS : (fun w' : World => w'.cell? ⟨W.heap.size + 1, 0, none⟩ = some (.int .i64 (of i)) ∧ w'.cell? ⟨W.heap.size, 0, none⟩ = some (.int .i64 (of p)) ∧ w'.cell? ⟨W.heap.size, 1, none⟩ = some (.int .i64 (lf p))) (((W.alloc (.cells #[.int .i64 (of p), .int .i64 (lf p)] 56)).alloc (.cells #[.int .i64 (of i), .int .i64 (lf i)] 56)).drew).drew := by simp [go_sem, *]
                        refine wpAnyH_take (i := 0) (v := ?_) rfl (by kernel_rfl) (by kernel_rfl) (by kernel_rfl) (fun _ _ _ h => h) (Or.inl ⟨by rfl, ?_⟩) hS ?_
                        rotate_left
                        · (intro w hSw; (try dsimp only at hSw); go_simp; (try with_reducible rfl))
                        simp only [List.getElem_toArray, List.getElem_cons_zero, List.getElem_cons_succ, Act.put, List.setIfInBounds_toArray, List.set_cons_zero, List.set_cons_succ]
                        refine wpAnyH_take (i := 1) (v := ?_) rfl (by kernel_rfl) (by kernel_rfl) (by kernel_rfl) (fun _ _ _ h => h) (Or.inl ⟨by rfl, ?_⟩) hS ?_
                        rotate_left
                        · (intro w hSw; (try dsimp only at hSw); go_simp; (try with_reducible rfl))
                        simp only [List.getElem_toArray, List.getElem_cons_zero, List.getElem_cons_succ, Act.put, List.setIfInBounds_toArray, List.set_cons_zero, List.set_cons_succ]
                        refine wpAnyH_take (i := 2) (v := ?_) rfl (by kernel_rfl) (by kernel_rfl) (by kernel_rfl) (fun _ _ _ h => h) (Or.inl ⟨by rfl, ?_⟩) hS ?_
                        rotate_left
                        · (intro w hSw; (try dsimp only at hSw); go_simp; (try with_reducible rfl))
                        simp only [List.getElem_toArray, List.getElem_cons_zero, List.getElem_cons_succ, Act.put, List.setIfInBounds_toArray, List.set_cons_zero, List.set_cons_succ]
                        refine wpAnyH_ready (rs := [3]) (by kernel_rfl) (by simp) ?_
                        refine AllReadyH.cons rfl (fun K hK => ?_) AllReadyH.nil
                        go_simp
                        refine (end_walk (of p) (lf p) _ (Hof.out p) (Hlf.out p)).mono ?_
                        rintro e w1 ⟨rfl, rfl⟩
                        (try dsimp only)
                        refine hK.out _ _ ?_ (fun hS => ?_)
                        · (simp [go_sem, *])
                        clear hK K
                        refine wpAnyH_take (i := 4) (v := ?_) rfl (by kernel_rfl) (by kernel_rfl) (by kernel_rfl) (fun _ _ _ h => h) (Or.inl ⟨by rfl, ?_⟩) hS ?_
                        rotate_left
                        · (intro w hSw; (try dsimp only at hSw); go_simp; (try with_reducible rfl))
                        simp only [List.getElem_toArray, List.getElem_cons_zero, List.getElem_cons_succ, Act.put, List.setIfInBounds_toArray, List.set_cons_zero, List.set_cons_succ]
                        refine wpAnyH_done (by kernel_rfl) ?_ _
                        clear hS
                        gi_wp2_with (fail)
                        exact ⟨(((KeepsOthers.alloc _ _).trans (KeepsOthers.alloc _ _)).trans (KeepsOthers.alloc _ _)).trans ((KeepsOthers.drew _).trans (KeepsOthers.drew _)), HB2.out _ _ _, Hnew.out, HBW.out.trans (HB2.out _ _ _)⟩
                case done2 =>
                  rintro D' ys' W hD' hys' ⟨hno', hB'⟩ hK'
                  have HCe : Hid (CK w W ap k2 cp of lf g cap k2) := hC0.below hB'
                  have N4 : Hid (anyUpto (p4 of lf) k2 = false) := miss4 hys' hno'
                  have HKe : Hid (W.heap[D]? = some (.deferred (some []))) := (hB'.block D hDlt).trans hK0
                  have HKe' : Hid (W.heap[D']? = some (.deferred (some []))) := hK'
                  have HDD : Hid (D < D') := Nat.lt_of_lt_of_le hDlt hD'
                  have c6 := HCe.out.c6
                  have c7 := HCe.out.c7
                  have f6 := HCe.out.f6
                  have f7 := HCe.out.f7
                  clear hD' hys' hno' hB' hK' hK0 hDlt hcB hC0 hs0
                  go_wp2_with (fail)
                  exact end_out _ HCe.out HKe.out HKe'.out (by have := HDD.out; omega) (by have := hDn.out; omega) (by have := hDn.out; have := HDD.out; omega) _ rfl rfl (fun W' hb => ⟨⟨_, by rw [rule0 N1.out N2.out N3.out N4.out]⟩, hb⟩)
                case stop2 =>
                  rintro D' c pre W hD' ⟨kk, hkk, hpp⟩ ⟨⟨⟨rfl, hex, txt, h6, h7⟩, hB⟩, hKD⟩ hK'
                  gi_wp2_with (fail)
                  exact chk_out2 _ (w.heap.size + 1) (w.heap.size + 1 + 1) D D' W r4 txt _ rfl rfl h6 h7 hKD hK' (by omega) ⟨⟨_, by rw [rule4' N1.out N2.out N3.out (hit4 hkk hpp hex)]⟩, put2 hB hKD hK' (by omega) (by have := hDn.out; omega) (by have := hDn.out; omega)⟩
              case stop =>
                rintro D c pre W hD ⟨kk, hkk, hpp⟩ ⟨⟨rfl, hex, txt, h6, h7⟩, hB⟩ hK
                gi_wp2_with (fail)
                exact chk_out1 _ (w.heap.size + 1) (w.heap.size + 1 + 1) D W r3 txt _ rfl rfl h6 h7 hK ⟨⟨_, by rw [rule3' N1.out N2.out (hit3 hkk hpp hex)]⟩, hB.trans (belowK_b (w := w) (Nat.le_refl _) W D _ _ (by have := hC0.sz; omega) hK rfl rfl)⟩
end Go.Proofs.YbulkblqFmt
