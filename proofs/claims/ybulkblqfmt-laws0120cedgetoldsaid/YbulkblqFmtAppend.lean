import Derived.Test.YbulkblqFmtFacts
import Derived.WalkKit
import Derived.WalkSpells
import Derived.WalkLawsBesides
import Derived.BigQuiet
import Derived.Deep.QuietTactic
import Derived.LoopN
import Derived.Maps.AppendAt
import Derived.Laws.AppendOwnNone
namespace Go.Proofs.YbulkblqFmt
open Go.RowKit Go.Extern.Stop Go.Stop Go.Extern

/-- A slice of bytes, as cells: nil, or so many cells behind an address. -/
def RowV (w : World) (ao : Option Addr) (m c : Nat) (news : List Value) : Prop :=
  ((ao = none ∧ m = 0 ∧ c = 0 ∧ news = []) ∨ ∃ ad, ao = some ad ∧ news.length = m ∧ ∀ j u, news[j]? = some u → w.cell? (ad.add j) = some u) ∧ ∀ u ∈ news, u.oneCell' = true

theorem Ybaf.info5 : (Ybaf.prog.info? 5).map (fun i => (i.zero, i.size, i.bytes)) = some (some (.int .u8 0), 1, 1) := by kernel_rfl

/-- 'append(s, x...)' of bytes, s the call's own. -/
theorem wp_append_bytes {w : World} {ops : Array Oper} {rest : List Oper} {o : Oper} {a : Act} {Q : Exit → Act → World → Prop} (hgd : o.guard = none) (s x : Operand)
    (ho : o.op = .call { callee := .builtin .append, args := #[s, x], argTypes := #[22, 22] }) (base : Nat) (v : Value) (n : Nat) (xs : List Value) (hs : a.eval s = v) (hown : w.ownsRow base 5 1 v n xs)
    (ao : Option Addr) (m c : Nat) (news : List Value) (hx : a.eval x = .slice ao m c) (hsrc : RowV w ao m c news) (hb : n + m ≤ 1000000) (hbase : base ≤ w.heap.size)
    (h : ∀ v' w', w'.ownsRow base 5 1 v' (n + m) (xs ++ news) → w.grownBy w' v.ownBlock → (v'.ownBlock = v.ownBlock ∨ v'.ownBlock = some w.heap.size) → wpList Ybaf.prog ops Q rest (a.put o.dst v') w') :
    wpList Ybaf.prog ops Q (o :: rest) a w := by
  obtain ⟨i, hi, hz0, hz1, hz2⟩ := info_parts Ybaf.info5
  obtain ⟨hsrc, h1⟩ := hsrc
  rcases hsrc with ⟨rfl, rfl, rfl, rfl⟩ | ⟨ad, rfl, hl, hc⟩
  · exact wpList_append_own_none hgd s x 22 ho base 5 i 1 Ybaf.underlying22 hi v n xs hs hown hx (h v w (by simpa using hown) (World.grownBy.refl _ _) (.inl rfl))
  · exact wpList_append_own_at w hgd s x 22 ho base 5 i (.int .u8 0) 1 1 Ybaf.underlying22 hi hz0 hz1 hz2 rfl (by omega) v n xs hs hown ad m c news hx (by omega) hc h1 (by unfold maxLen; omega) (by omega) hbase
      (fun v' w' h2 h3 _ h5 => h v' w' h2 h3 h5)

theorem RowV.below {w w' : World} {ao : Option Addr} {m c : Nat} {news : List Value} {row : Option Nat} (h : RowV w ao m c news) (hg : w.grownBy w' row) (hne : ∀ ad, ao = some ad → some ad.block ≠ row) : RowV w' ao m c news := by
  obtain ⟨h, h1⟩ := h
  refine ⟨?_, h1⟩
  rcases h with h | ⟨ad, rfl, hl, hc⟩
  · exact .inl h
  · refine .inr ⟨ad, rfl, hl, fun j u hu => hg.cell (hc j u hu) ?_⟩
    have : (ad.add j).block = ad.block := by unfold Addr.add; split <;> rfl
    rw [this]
    exact hne ad rfl

set_option maxHeartbeats 1000000 in
/-- appendLV, the value fits. -/
theorem lv_short (base : Nat) (vb : Value) (nb : Nat) (xs : List Value) (ao : Option Addr) (nv c : Nat) (news : List Value) (s : ByteArray) (d : Value) (w : World) (hown : w.ownsRow base 5 1 vb nb xs) (hsrc : RowV w ao nv c news)
    (hsep : ∀ ad, ao = some ad → some ad.block ≠ vb.ownBlock ∧ ad.block < w.heap.size) (hnv : nv ≤ 255) (hnb : nb ≤ 1024) (hbase : base ≤ w.heap.size) :
    Calls Ybaf.prog 20 #[vb, .slice ao nv c, .string s, d] w fun e w' => ∃ v', e = .returned v' ∧ w'.ownsRow base 5 1 v' (nb + 1 + nv) (xs ++ .int .u8 nv :: news) ∧ w.grownBy w' vb.ownBlock := by
  have hl : ¬ (255 : Int) < (nv : Int) := by omega
  have Hown : Hid (w.ownsRow base 5 1 vb nb xs) := hown
  have Hsrc : Hid (RowV w ao nv c news) := hsrc
  have Hsep : Hid (∀ ad, ao = some ad → some ad.block ≠ vb.ownBlock ∧ ad.block < w.heap.size) := hsep
  clear hown hsrc hsep
  go_enter Ybaf.func20, Ybaf.ntmps20
  go_wp2_with (at_builtin; refine wp_append_bytes rfl _ _ rfl base vb nb xs rfl ?ho _ _ _ [.int .u8 nv] rfl ?hs ?hb ?hB ?_)
  case ho => exact Hown.out.alloc _
  case hs => exact ⟨.inr ⟨_, rfl, rfl, cell_one_new _ _ _⟩, fun u hu => by simp at hu; subst hu; rfl⟩
  case hb => omega
  case hB => omega
  intro v1 w1 hown1 hg1 hat1
  have Hg1 : Hid (w.grownBy w1 vb.ownBlock) := (World.grownBy_alloc w _ _).trans hg1
  have Hown1 : Hid (w1.ownsRow base 5 1 v1 (nb + 1) (xs ++ [.int .u8 nv])) := hown1
  have Hat : Hid (v1.ownBlock = vb.ownBlock ∨ v1.ownBlock = some (w.heap.size + 1)) := by
    show _ ∨ _
    simpa using hat1
  have hsz1 : w.heap.size + 1 ≤ w1.heap.size := by have := hg1.size; simpa using this
  clear hown1 hg1 hat1
  go_wp2_with (at_builtin; refine wp_append_bytes rfl _ _ rfl base v1 (nb + 1) (xs ++ [.int .u8 nv]) rfl Hown1.out ao nv c news rfl ?hs ?hb ?hB ?_)
  case hs => exact Hsrc.out.below Hg1.out (fun ad h => (Hsep.out ad h).1)
  case hb => omega
  case hB => omega
  intro v2 w2 hown2 hg2 hat2
  have Hown2 : Hid (w2.ownsRow base 5 1 v2 (nb + 1 + nv) (xs ++ .int .u8 nv :: news)) := hown2
  have Hg2 : Hid (w.grownBy w2 vb.ownBlock) := by
    refine ⟨hg2.os.trans Hg1.out.os, hg2.tape.trans Hg1.out.tape, hg2.output.trans Hg1.out.output, Nat.le_trans Hg1.out.size hg2.size, fun k hk hne => ?_⟩
    rw [hg2.block k (by omega) ?_]
    · exact Hg1.out.block k hk hne
    · rcases Hat.out with h | h
      · rw [h]; exact hne
      · rw [h]; intro e; have := Option.some.inj e; omega
  clear hown2 hg2 hat2
  go_wp2
  go_ret
  exact ⟨_, rfl, Hown2.out, Hg2.out⟩

def longRule : ByteArray := ⟨#[116, 111, 111, 45, 108, 111, 110, 103]⟩

set_option maxHeartbeats 1000000 in
/-- appendLV, the value is too long, no rule was recorded before. -/
theorem lv_long_new (F : Interp) (vb : Value) (ao : Option Addr) (nv c : Nat) (s : ByteArray) (d : Nat) (w : World) (hF : F.answers w.tape) (hnv : 255 < nv) (hnm : nv ≤ 1024) (hd : d < w.heap.size) (hd0 : w.cell? ⟨d, 0, none⟩ = some (.pointer none)) (hf : w.frozen? ⟨d, 0, none⟩ = false) :
    Calls Ybaf.prog 20 #[vb, .slice ao nv c, .string s, .pointer (some ⟨d, 0, none⟩)] w fun e w' => e = .returned vb ∧
      ∃ cs txt, w' = (((w.setCell ⟨d, 0, none⟩ (.pointer (some ⟨w.heap.size + 1, 0, none⟩))).alloc (.cells cs 20)).alloc (.cells #[.string longRule, .string txt] 50)).drew := by
  have hl : (255 : Int) < (nv : Int) := by omega
  have hF' := answers_open hF
  go_enter Ybaf.func20, Ybaf.ntmps20
  go_wp2
  apply rows_value Ybaf.nextTurns
  case hr =>
    go_simp
    exact ⟨rfl, rfl⟩
  case h =>
    go_wp2
    go_end0
    go_wp2
    go_ret
    exact ⟨rfl, _, _, rfl⟩

set_option maxHeartbeats 1000000 in
/-- appendLV, the value is too long, a rule was recorded before. -/
theorem lv_long_old (vb : Value) (ao : Option Addr) (nv c : Nat) (s : ByteArray) (d p : Nat) (w : World) (hnv : 255 < nv) (hnm : nv ≤ 1024) (hd : d < w.heap.size) (hd0 : w.cell? ⟨d, 0, none⟩ = some (.pointer (some ⟨p, 0, none⟩))) :
    Calls Ybaf.prog 20 #[vb, .slice ao nv c, .string s, .pointer (some ⟨d, 0, none⟩)] w fun e w' => e = .returned vb ∧ ∃ cs, w' = w.alloc (.cells cs 20) := by
  have hl : (255 : Int) < (nv : Int) := by omega
  go_enter Ybaf.func20, Ybaf.ntmps20
  go_wp2
  go_end0
  go_wp2
  go_ret
  exact ⟨rfl, _, rfl⟩
end Go.Proofs.YbulkblqFmt
