import Derived.OrdersIn
import Derived.OrdersHeld
import Derived.RangeFuncCalls
namespace Go.Proofs.YbulkblqFmt
open Go

/-- No 'defer' statement. -/
def notDefer (o : Oper) : Bool := match o.op with | .defer _ => false | _ => true
theorem notDefer_spec {o : Oper} (h : notDefer o = true) (c) : o.op ≠ .defer c := fun e => by simp [notDefer, e] at h

theorem rowsIn_round {P : Program} {l n : Nat} {row : String} {args : Array Value} {w : World} {R : Value → World → Prop} (h : Rows P row args w R) : RowsIn (Fence.wide.inRound l) n P row args w R :=
  fun c cs _ => let ⟨v, w', r, s⟩ := h c cs; ⟨v, w', r, (stepsIn_wide (P := P)).2 s⟩

/-- An operation that is carried out outside of a round is carried out so in a round. -/
theorem wpOpIn_round {P : Program} {l n : Nat} {ops : Array Oper} {Q : Exit → Act → World → Prop} (hlo : ¬ LetsOut Q) (hnd : ∀ (i : Nat) o, ops[i]? = some o → notDefer o = true) {i : Nat} {K : Act → World → Prop} {a : Act} {w : World}
    (h : wpOp P ops Q i K a w) : wpOpIn (Fence.wide.inRound l) n P ops Q i K a w := by
  unfold wpOp at h
  unfold wpOpIn
  cases ho : ops[i]? with
  | none => simpa [ho] using h
  | some o =>
    simp only [ho] at h ⊢
    split
    · rename_i hw
      simp only [hw, if_true] at h
      have h := h.elim id (fun x => absurd x.2 hlo)
      unfold Oper.wp at h
      unfold Oper.wpIn
      refine ⟨fun _ _ => trivial, ?_⟩
      rw [Oper.semAt_eq _ _ _ (notDefer_spec (hnd i o ho))]
      generalize (execOp a.eval o).run P w = r at *
      cases r with
      | ok x w' =>
        cases x <;> simp only [Oper.upon, Oper.uponIn] at h ⊢
        case value => exact h
        case skip => exact h
        case defer => exact h
        case enter => exact ⟨fun e => (by cases e), CallsIn.inRound l (callsIn_wide.2 h)⟩
        case row => exact ⟨fun e => (by cases e), rowsIn_round h⟩
      | halt x w' => cases x <;> simp only [Oper.upon, Oper.uponIn] at h ⊢ <;> exact h
    · rename_i hw
      simp only [hw] at h
      exact ⟨fun _ _ => trivial, h⟩

theorem wpAnyIn_round {P : Program} {l n : Nat} {md : Region.Mode} {ops : Array Oper} {Q : Exit → Act → World → Prop} (hlo : ¬ LetsOut Q) (hnd : ∀ (i : Nat) o, ops[i]? = some o → notDefer o = true) :
    ∀ (fuel : Nat) (listed : Array Bool) (a : Act) (w : World), wpAny P md ops Q fuel listed a w → wpAnyIn (Fence.wide.inRound l) n P md ops Q fuel listed a w
  | 0, _, _, _, h => h
  | fuel + 1, _, _, _, h => ⟨h.1, fun i hi => wpOpIn_mono (fun a' w' h' => wpAnyIn_round hlo hnd fuel _ a' w' h') (wpOpIn_round hlo hnd (h.2 i hi))⟩

/-- A region that draws its order, in a round: by the laws of 'wpAnyH'. -/
theorem region_round {P : Program} {l n id : Nat} {ops : Array Oper} {Q : Exit → Act → World → Prop} {S : World → Prop} {a : Act} {w : World} (hm : P.follows .mixedOrders = true) (hlo : ¬ LetsOut Q) (hnd : ops.all notDefer = true)
    (h : wpAnyH P .any ops Q S ops.size (Array.replicate ops.size false) a w.drew) : (Code.region id ops true).wpIn (Fence.wide.inRound l) n P Q a w :=
  wpIn_region_any hm (wpAnyIn_round hlo (fun i o ho => by
    obtain ⟨hi, rfl⟩ := Array.getElem?_eq_some_iff.1 ho
    exact Array.all_eq_true.1 hnd i hi) _ _ _ _ (wpAny_of_held _ _ _ _ h))
end Go.Proofs.YbulkblqFmt
