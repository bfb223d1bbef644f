import Derived.RangeFuncNested
import Derived.RangeFuncLeaves
import Derived.OrdersIn
import Derived.OrdersHeld
import Derived.TacticsIn
/-
  A REGION THAT DRAWS ITS ORDER, WALKED IN A ROUND's FRAME, OUT OF THE PLAIN CALCULUS: where no operation of it defers, a round's frame carries it out as every frame does.
-/
namespace Go.Proofs.Ybulkbqtq
open Go

theorem wpOpIn_of {P : Program} {ops : Array Oper} {Q : Exit → Act → World → Prop} (l n : Nat) (hd : ∀ (i : Nat) (o : Oper) c, ops[i]? = some o → o.op ≠ .defer c) (hout : ∀ a w, ¬ Q .outgrown a w)
    {K : Act → World → Prop} {i : Nat} {a : Act} {w : World} (h : wpOp P ops Q i K a w) : wpOpIn (Fence.wide.inRound l) n P ops Q i K a w := by
  unfold wpOp at h
  unfold wpOpIn
  cases ho : ops[i]? with
  | none => simpa [ho] using h
  | some o =>
    simp only [ho] at h ⊢
    split
    · rename_i hw
      simp only [hw, if_true] at h
      rcases h with h | ⟨_, a0, w0, h⟩
      · refine ⟨fun _ _ => trivial, ?_⟩
        rw [Fence.inRound_round, Oper.semAt_some l a.eval o (fun c => hd i o c ho)]
        unfold Oper.wp at h
        generalize (execOp a.eval o).run P w = r at *
        cases r with
        | ok x w' =>
          cases x <;> simp only [Oper.upon, Oper.uponIn] at h ⊢
          case value => exact h
          case skip => exact h
          case defer => exact h
          case enter f args =>
            refine ⟨fun e => (by simp [Fence.inRound, Fence.wide] at e), ?_⟩
            exact (callsIn_wide (n := n - 1)).2 h
          case row row args =>
            refine ⟨fun e => (by simp [Fence.inRound, Fence.wide] at e), fun c cs _ => ?_⟩
            obtain ⟨v, w', hR, hst⟩ := h c cs
            exact ⟨v, w', hR, stepsIn_wide.2 hst⟩
        | halt x w' =>
          cases x <;> simp only [Oper.upon, Oper.uponIn] at h ⊢ <;> exact h
      · exact absurd h (hout a0 w0)
    · rename_i hw
      simp only [hw] at h
      exact ⟨fun _ _ => trivial, h⟩

theorem wpAnyIn_of {P : Program} {ops : Array Oper} {Q : Exit → Act → World → Prop} {md : Region.Mode} (l n : Nat) (hd : ∀ (i : Nat) (o : Oper) c, ops[i]? = some o → o.op ≠ .defer c) (hout : ∀ a w, ¬ Q .outgrown a w) :
    ∀ (fuel : Nat) (listed : Array Bool) (a : Act) (w : World), wpAny P md ops Q fuel listed a w → wpAnyIn (Fence.wide.inRound l) n P md ops Q fuel listed a w
  | 0, _, _, _, h => h
  | fuel + 1, _, _, _, h => ⟨h.1, fun i hi => wpOpIn_mono (fun a' w' h' => wpAnyIn_of l n hd hout fuel _ a' w' h') (wpOpIn_of l n hd hout (h.2 i hi))⟩

/-- The region's goal in a round's frame, from the calculus that takes loads first. -/
theorem wpIn_round_held {P : Program} {id : Nat} {ops : Array Oper} {Q : Exit → Act → World → Prop} {S : World → Prop} {l n : Nat} {a : Act} {w : World} (hm : P.follows .mixedOrders = true)
    (hd : ∀ (i : Nat) (o : Oper) c, ops[i]? = some o → o.op ≠ .defer c) (hout : ∀ a w, ¬ Q .outgrown a w)
    (h : wpAnyH P .any ops Q S ops.size (Array.replicate ops.size false) a w.drew) : (Code.region id ops true).wpIn (Fence.wide.inRound l) n P Q a w :=
  wpIn_region_any hm (wpAnyIn_of l n hd hout _ _ _ _ (wpAny_of_held _ _ _ _ h))

end Go.Proofs.Ybulkbqtq
