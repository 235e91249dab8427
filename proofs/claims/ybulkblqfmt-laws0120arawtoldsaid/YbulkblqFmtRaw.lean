import Derived.Test.YbulkblqFmtRs
import Derived.Test.YbulkblqFmtChk
import Derived.OpenShut
namespace Go.Proofs.YbulkblqFmt
open Go.RowKit Go.Extern.Stop Go.Stop Go.Extern
open Go.WideShapes (add_plain)

theorem RS.ptr {w wr : World} {at_ : Nat → Nat} {k : Nat} {va vp : Value} (h : RS w wr at_ k va vp) : ∃ ap cp, vp = .slice ap k cp ∧ (k = 0 ∨ ∃ gp, ap = some ⟨gp, 0, none⟩ ∧ PtrRow wr gp k at_) := by
  rcases h.op.2 with ⟨rfl, rfl⟩ | ⟨g, cap, cur, rfl, hb, hg, rest⟩
  · exact ⟨none, 0, rfl, .inl rfl⟩
  · refine ⟨_, _, rfl, .inr ⟨g, rfl, (Array.getElem?_eq_some_iff.1 hg).1, fun i hi => ?_⟩⟩
    have hp := ptrV_get at_ k i hi
    have h0 := h.op.cells (g := g) rfl _ _ hp.1
    have h1 := h.op.cells (g := g) rfl _ _ hp.2
    rw [add_plain, Nat.zero_add] at h0 h1
    exact ⟨h0, h1⟩
theorem RS.ats {w wr : World} {at_ : Nat → Nat} {k : Nat} {va vp : Value} (h : RS w wr at_ k va vp) : ∃ aa ca, va = .slice aa k ca ∧ (k = 0 ∨ ∃ ga, aa = some ⟨ga, 0, none⟩ ∧ AtRow wr ga 0 k at_) := by
  rcases h.oa.2 with ⟨rfl, rfl⟩ | ⟨g, cap, cur, rfl, hb, hg, rest⟩
  · exact ⟨none, 0, rfl, .inl rfl⟩
  · refine ⟨_, _, rfl, .inr ⟨g, rfl, (Array.getElem?_eq_some_iff.1 hg).1, fun i hi => ?_⟩⟩
    have h0 := h.oa.cells (g := g) rfl _ _ (atsV_get at_ k i hi)
    rw [add_plain] at h0
    exact h0

/-- A place handed in. -/
def PlRow (w : World) (b o k : Nat) (pz : Nat → Int) : Prop := ∀ i, i < k → w.cell? ⟨b, o + i, none⟩ = some (.int .u16 (pz i))

set_option maxRecDepth 100000 in
set_option maxHeartbeats 2000000 in
/-- The law, where there are at least four bytes. -/
theorem raw_walk (F : Interp) (b o nd cd : Nat) (fixed : Int) (apl : Option Addr) (np cpl : Nat) (pz fz : Nat → Int) (w : World) (hF : F.answers w.tape) (hnd : nd ≤ 4096) (h4 : 4 ≤ nd) (hcd : nd ≤ cd) (hnp : np ≤ 256)
    (hz : ∀ j, 0 ≤ fz j ∧ fz j ≤ 255) (hrow : ByteRow w b o (o + nd) fz) (hpz : ∀ i, 0 ≤ pz i ∧ pz i ≤ 65535) (hpl : np = 0 ∨ ∃ bp op, apl = some ⟨bp, op, none⟩ ∧ PlRow w bp op np pz) :
    Calls Ybaf.prog 3 #[.slice (some ⟨b, o, none⟩) nd cd, .int .i64 fixed, .slice apl np cpl] w fun e w' => e = .returned (.bool true) ∧ Below w.heap.size w w' := by
  obtain ⟨i3, hi3, hz30, hz31, hz32⟩ := info_parts Ybaf.info3
  obtain ⟨i28, hi28, hz280, hz281, hz282⟩ := info_parts Ybaf.info28
  have Hz : Hid (∀ j, 0 ≤ fz j ∧ fz j ≤ 255) := hz
  have Hpz : Hid (∀ i, 0 ≤ pz i ∧ pz i ≤ 65535) := hpz
  have Hrow : Hid (ByteRow w b o (o + nd) fz) := hrow
  have Hpl : Hid (np = 0 ∨ ∃ bp op, apl = some ⟨bp, op, none⟩ ∧ PlRow w bp op np pz) := hpl
  have g1 : ¬ (4096 : Int) < (nd : Int) := by omega
  have g2 : ¬ (256 : Int) < (np : Int) := by omega
  have g3 : (4 : Int) ≤ (nd : Int) := by omega
  have g4 : IntKind.i64.wrap ((nd : Int) - 3) = (nd : Int) - 3 := by
    simp only [IntKind.wrap, IntKind.bits, IntKind.signed]
    simp
    omega
  clear hz hpz hrow hpl
  obtain ⟨at_, hat⟩ : ∃ at_ : Nat → Nat, ∀ i, (at_ i : Int) = pz i % ((nd : Int) - 3) ∧ at_ i + 3 < nd := by
    refine ⟨fun i => (pz i % ((nd : Int) - 3)).toNat, fun i => ?_⟩
    have h1 := Int.emod_nonneg (pz i) (show ((nd : Int) - 3) ≠ 0 by omega)
    have h2 := Int.emod_lt_of_pos (pz i) (show (0 : Int) < (nd : Int) - 3 by omega)
    exact ⟨by show ((pz i % ((nd : Int) - 3)).toNat : Int) = _; omega, by show (pz i % ((nd : Int) - 3)).toNat + 3 < nd; omega⟩
  have Hat : Hid (∀ i, (at_ i : Int) = pz i % ((nd : Int) - 3) ∧ at_ i + 3 < nd) := hat
  clear hat
  go_enter Ybaf.func3, Ybaf.ntmps3
  go_wp2_with (fail)
  go_loopw [7, 8, 31] (fun va vp i w' => ∃ k : Nat, k ≤ np ∧ i = .int .i64 k ∧ RS w w' at_ k va vp) (fun _ _ i _ => np - (intOf i).toNat)
  case atStart => exact ⟨0, Nat.zero_le _, rfl, World.ownsRow_nil _ _ _ _, World.ownsRow_nil _ _ _ _, .inl rfl, Below.refl _ _⟩
  case round =>
    obtain ⟨k, hk, rfl, hR⟩ := hrel
    by_cases hlt : k < np
    · have hkn : (k : Int) < (np : Int) := by omega
      obtain ⟨bp, op, rfl, hpl⟩ := Hpl.out.resolve_left (by omega)
      have hc := cell_later hR.bel (hpl k hlt)
      obtain ⟨z0, z1⟩ := Hpz.out k
      have hmod := (Hat.out k).1.symm
      have hm0 : (0 : Int) < (nd : Int) - 3 := by omega
      have hm1 : (((nd : Int) - 3) == 0) = false := by simp; omega
      have HR : Hid (RS w wr at_ k u7 u8) := hR
      have hat1 : (at_ k : Int) ≤ 65535 := by have := (Hat.out k).2; omega
      clear hR
      go_wp2_with (at_builtin; refine wp_append_own rfl (.tmp 39) (.tmp 41) 24 rfl w.heap.size 3 i3 (.int .i64 0) 1 8 Ybaf.underlying24 hi3 hz30 hz31 hz32 rfl (by decide) u7 k (atsV at_ k) rfl ?ho ⟨wr.heap.size, 0, none⟩ 1 1 [.int .i64 (at_ k : Nat)] rfl rfl ?hc ?ho1 (by decide) ?b1 ?b2 ?base ?_)
      case ho => exact HR.out.oa.alloc _
      case hc => exact cell_one_new _ _ _
      case ho1 => intro u hu; simp at hu; subst hu; rfl
      case b1 => unfold maxLen; omega
      case b2 => omega
      case base => have := HR.out.bel.size; simp; omega
      intro ga ca wr2 ho2 hg2 hat2
      have HO2 : Hid (wr2.ownsRow w.heap.size 3 1 (.slice (some ⟨ga, 0, none⟩) (k + 1) ca) (k + 1) (atsV at_ k ++ [.int .i64 (at_ k : Nat)])) := ho2
      have HG2 : Hid ((wr.alloc (.cells #[.int .i64 (at_ k : Nat)] 3)).grownBy wr2 u7.ownBlock) := hg2
      have HA2 : Hid (u7.ownBlock = some ga ∨ ga = (wr.alloc (.cells #[.int .i64 (at_ k : Nat)] 3)).heap.size) := by show _ ∨ _; simpa using hat2
      have HS2 : Hid (w.heap.size ≤ wr2.heap.size) := by show _ ≤ _; have h1 := HR.out.bel.size; have h2 := hg2.size; simp at h2; omega
      clear ho2 hg2 hat2
      go_wp2_with (at_builtin; refine wp_append_own rfl (.tmp 43) (.tmp 46) 25 rfl w.heap.size 28 i28 (.agg #[.string ⟨#[]⟩, .int .i64 0]) 2 24 Ybaf.underlying25 hi28 hz280 hz281 hz282 rfl (by decide) u8 k (ptrV at_ k) rfl ?ho ⟨wr2.heap.size, 0, none⟩ 1 1 [.string vS, .int .i64 (at_ k : Nat)] rfl rfl ?hc ?ho1 (by decide) ?b1 ?b2 ?base ?_)
      case ho => exact (HR.out.mid HG2.out).alloc _
      case hc => exact pair_cells _ _ _ _
      case ho1 => intro u hu; simp at hu; rcases hu with rfl | rfl <;> rfl
      case b1 => unfold maxLen; omega
      case b2 => omega
      case base => have := HS2.out; simp; omega
      intro gp cp wr4 ho4 hg4 hat4
      have HN : Hid (RS w wr4 at_ (k + 1) (.slice (some ⟨ga, 0, none⟩) (k + 1) ca) (.slice (some ⟨gp, 0, none⟩) (k + 1) cp)) := HR.out.next HO2.out HG2.out HA2.out ho4 hg4 (by simpa using hat4)
      clear ho4 hg4 hat4
      go_wp2
      go_roundw
      case rel => exact ⟨k + 1, by omega, by go_num, HN.out⟩
      case measure => simp [intOf]; omega
    · obtain rfl : k = np := by omega
      have hkn : ¬ (k : Int) < (k : Int) := by omega
      obtain ⟨ap, cp, rfl, hp⟩ := hR.ptr
      obtain ⟨aa, ca, rfl, ha⟩ := hR.ats
      have HB : Hid (Below w.heap.size w wr) := hR.bel
      have HP : Hid (k = 0 ∨ ∃ gp, ap = some ⟨gp, 0, none⟩ ∧ PtrRow wr gp k at_) := hp
      have HA : Hid (k = 0 ∨ ∃ ga, aa = some ⟨ga, 0, none⟩ ∧ AtRow wr ga 0 k at_) := ha
      clear hR hp ha
      go_wp2_with (fail)
      refine (chk_walk F (some ⟨b, o, none⟩) ap nd cd k cp fixed at_ fz (fun i => word fz (o + at_ i)) (fun i => word fz (o + (at_ i + 2))) wr ?_ hnp hnd Hz.out ?_ (fun i => word_bounds fz Hz.out _) (fun i => word_bounds fz Hz.out _)).mono ?_
      · rw [HB.out.tape]; exact hF
      · rcases HP.out with h | ⟨gp, e, h⟩
        · exact .inl h
        · exact .inr ⟨b, o, gp, rfl, e, hcd, Hrow.out.below HB.out, h, fun i _ => ⟨(Hat.out i).2, rfl, rfl⟩⟩
      rintro e w1 ⟨⟨txt, rfl⟩, hb⟩
      have HB1 : Hid (Below wr.heap.size wr w1) := hb
      clear hb
      go_wp2_with (fail)
      refine (model_walk (some ⟨b, o, none⟩) aa nd cd k ca fixed at_ fz (fun i => word fz (o + at_ i)) (fun i => word fz (o + (at_ i + 2))) w1 hnp hnd Hz.out ?_ (fun i => word_bounds fz Hz.out _) (fun i => word_bounds fz Hz.out _)).mono ?_
      · rcases HA.out with h | ⟨ga, e, h⟩
        · exact .inl h
        · exact .inr ⟨b, o, ga, 0, rfl, e, (Hrow.out.below HB.out).below HB1.out, h.below HB1.out, fun i _ => ⟨(Hat.out i).2, rfl, rfl⟩⟩
      rintro e w2 ⟨rfl, hb⟩
      have HB2 : Hid (Below w.heap.size w w2) := (HB.out.trans (HB1.out.mono HB.out.size)).trans (hb.mono (Nat.le_trans HB.out.size HB1.out.size))
      clear hb
      go_wp2
      go_ret
      exact ⟨rfl, HB2.out⟩

theorem IsRow.plain {k : IntKind} {w : World} {a : Option Addr} {n c : Nat} {zs : List Int} (h : IsRow k w a n c zs) (hn : 0 < n) :
    ∃ b o, a = some ⟨b, o, none⟩ ∧ n ≤ c ∧ b < w.heap.size ∧ (∀ i, i < n → w.cell? ⟨b, o + i, none⟩ = some (.int k (zs.getD i 0))) ∧ ∀ i, zs.getD i 0 = 0 ∨ (Lit.int k (zs.getD i 0)).wf = true := by
  rcases h with ⟨rfl, rfl, rfl, rfl⟩ | ⟨⟨b, o, s⟩, rfl, hl, hm, hz, hc, hw⟩
  · omega
  have h0 : w.cell? ⟨b, o, s⟩ = some (.int k (zs.getD 0 0)) := by have := hc 0 (by omega); simpa [Addr.add] using this
  have hs : s = none := by
    unfold World.cell? at h0
    cases s with
    | none => rfl
    | some x => split at h0 <;> simp at h0
  subst hs
  have hb : b < w.heap.size := by
    unfold World.cell? at h0
    split at h0
    · rename_i he; exact (Array.getElem?_eq_some_iff.1 he).1
    · cases h0
  refine ⟨b, o, rfl, hl, hb, fun i hi => ?_, fun i => ?_⟩
  · have := hc i (by omega)
    rw [add_plain] at this
    exact this
  · by_cases hi : i < zs.length
    · right; exact hw _ (by rw [List.getD_eq_getElem?_getD, List.getElem?_eq_getElem hi]; simp)
    · left; rw [List.getD_eq_getElem?_getD, List.getElem?_eq_none (by omega)]; rfl

set_option maxRecDepth 100000 in
set_option maxHeartbeats 2000000 in
theorem raw_big (ad : Option Addr) (nd cd : Nat) (fixed : Int) (apl : Option Addr) (np cpl : Nat) (w : World) (h : 4096 < nd ∨ 256 < np) :
    Calls Ybaf.prog 3 #[.slice ad nd cd, .int .i64 fixed, .slice apl np cpl] w fun e w' => e = .returned (.bool true) ∧ Below w.heap.size w w' := by
  by_cases h1 : 4096 < nd
  · have g1 : (4096 : Int) < (nd : Int) := by omega
    go_enter Ybaf.func3, Ybaf.ntmps3
    go_wp2
    go_ret
    exact ⟨rfl, Below.refl _ _⟩
  · have g1 : ¬ (4096 : Int) < (nd : Int) := by omega
    have g2 : (256 : Int) < (np : Int) := by omega
    go_enter Ybaf.func3, Ybaf.ntmps3
    go_wp2
    go_ret
    exact ⟨rfl, Below.refl _ _⟩

set_option maxRecDepth 100000 in
set_option maxHeartbeats 2000000 in
theorem raw_small (F : Interp) (ad : Option Addr) (nd cd : Nat) (fixed : Int) (apl : Option Addr) (np cpl : Nat) (w : World) (hF : F.answers w.tape) (h4 : nd < 4) (hnp : np ≤ 256) :
    Calls Ybaf.prog 3 #[.slice ad nd cd, .int .i64 fixed, .slice apl np cpl] w fun e w' => e = .returned (.bool true) ∧ Below w.heap.size w w' := by
  have g1 : ¬ (4096 : Int) < (nd : Int) := by omega
  have g2 : ¬ (256 : Int) < (np : Int) := by omega
  have g3 : ¬ (4 : Int) ≤ (nd : Int) := by omega
  go_enter Ybaf.func3, Ybaf.ntmps3
  go_wp2_with (fail)
  refine (chk_walk F ad none nd cd 0 0 fixed (fun _ => 0) (fun _ => 0) (fun _ => 0) (fun _ => 0) w hF (by omega) (by omega) (fun _ => by omega) (.inl rfl) (fun _ => by omega) (fun _ => by omega)).mono ?_
  rintro e w1 ⟨⟨txt, rfl⟩, hb⟩
  have HB1 : Hid (Below w.heap.size w w1) := hb
  clear hb
  go_wp2_with (fail)
  refine (model_walk ad none nd cd 0 0 fixed (fun _ => 0) (fun _ => 0) (fun _ => 0) (fun _ => 0) w1 (by omega) (by omega) (fun _ => by omega) (.inl rfl) (fun _ => by omega) (fun _ => by omega)).mono ?_
  rintro e w2 ⟨rfl, hb⟩
  have HB2 : Hid (Below w.heap.size w w2) := HB1.out.trans (hb.mono HB1.out.size)
  clear hb
  go_wp2
  go_ret
  exact ⟨rfl, HB2.out⟩

/-- The law, whatever the input. -/
theorem raw_any (F : Interp) (ad : Option Addr) (nd cd : Nat) (zd : List Int) (fixed : Int) (apl : Option Addr) (np cpl : Nat) (zp : List Int) (w : World) (hF : F.answers w.tape) (hd : IsRow .u8 w ad nd cd zd) (hp : IsRow .u16 w apl np cpl zp) :
    Calls Ybaf.prog 3 #[.slice ad nd cd, .int .i64 fixed, .slice apl np cpl] w fun e w' => e = .returned (.bool true) ∧ Below w.heap.size w w' := by
  by_cases h1 : 4096 < nd ∨ 256 < np
  · exact raw_big ad nd cd fixed apl np cpl w h1
  by_cases h4 : nd < 4
  · exact raw_small F ad nd cd fixed apl np cpl w hF h4 (by omega)
  obtain ⟨b, o, rfl, hcd, hb, hc, hz⟩ := hd.plain (by omega)
  have hz' : ∀ j, 0 ≤ (fun j => zd.getD (j - o) 0) j ∧ (fun j => zd.getD (j - o) 0) j ≤ 255 := fun j => by
    rcases hz (j - o) with e | e
    · show 0 ≤ zd.getD (j - o) 0 ∧ zd.getD (j - o) 0 ≤ 255; rw [e]; omega
    · exact bounds_u8 e
  have hrow : ByteRow w b o (o + nd) (fun j => zd.getD (j - o) 0) := ⟨hb, fun j h1 h2 => by
    have := hc (j - o) (by omega)
    rw [show o + (j - o) = j by omega] at this
    exact this⟩
  by_cases hn0 : np = 0
  · exact raw_walk F b o nd cd fixed apl np cpl (fun _ => 0) _ w hF (by omega) (by omega) hcd (by omega) hz' hrow (fun _ => by omega) (.inl hn0)
  obtain ⟨bp, op, rfl, _, hbp, hcp, hzp⟩ := hp.plain (by omega)
  refine raw_walk F b o nd cd fixed _ np cpl (fun i => zp.getD i 0) _ w hF (by omega) (by omega) hcd (by omega) hz' hrow (fun i => ?_) (.inr ⟨bp, op, rfl, hcp⟩)
  rcases hzp i with e | e
  · show 0 ≤ zp.getD i 0 ∧ zp.getD i 0 ≤ 65535; rw [e]; omega
  · exact bounds_u16 e
end Go.Proofs.YbulkblqFmt
