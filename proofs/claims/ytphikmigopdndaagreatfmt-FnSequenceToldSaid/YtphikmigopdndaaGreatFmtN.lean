/- A drawn region within a round, walked as outside of it. -/
import Derived.Test.YtphikmigopdndaaGreatFmtL
import Derived.Deep.AppendLies
import Derived.Deep.RegionLaw
namespace Go.Proofs.YtphikmigopdndaaGreatFmt
open Go.RowKit Go.Shelf

theorem oper_in {o : Oper} {R : Act → World → Prop} {K : Act → World → Prop} {l m : Nat} {a : Act} {w : World} (hd : ∀ c, o.op ≠ .defer c)
    (h : o.wp Tryz.prog a w K (fun e a w => e = .normal ∧ R a w)) : o.wpIn (Fence.wide.inRound l) m Tryz.prog a w K (fun e a w => e = .normal ∧ R a w) := by
  refine ⟨fun _ _ => trivial, ?_⟩
  unfold Oper.wp at h
  show o.uponIn (Fence.wide.inRound l) m Tryz.prog a K _ ((o.semAt (some l) a.eval).run Tryz.prog w)
  rw [Oper.semAt_eq _ _ _ hd]
  generalize (execOp a.eval o).run Tryz.prog w = r at *
  cases r with
  | ok nx w' =>
    cases nx with
    | value v => exact h
    | skip => exact h
    | defer d => exact h
    | enter f args => 
      refine ⟨fun h => (by cases h), CallsIn.inRound l (callsIn_wide.2 ?_)⟩
      refine Calls.mono h ?_
      intro e w'' hh
      cases e <;> exact hh
    | row row args => exact ⟨fun h => (by cases h), fun c cs _ => let ⟨v, w', r, s⟩ := h c cs; ⟨v, w', r, stepsIn_wide.2 s⟩⟩
    | round => exact h.elim
    | _ => exact h.elim
  | halt hh w' =>
    cases hh with
    | panic v => exact h
    | _ => exact h.elim

theorem any_in {ops : Array Oper} {R : Act → World → Prop} {l m : Nat} (hd : ∀ (i : Nat) (o : Oper), ops[i]? = some o → ∀ c, o.op ≠ .defer c) :
    ∀ (fuel : Nat) (listed : Array Bool) (a : Act) (w : World), wpAny Tryz.prog .any ops (fun e a w => e = .normal ∧ R a w) fuel listed a w →
      wpAnyIn (Fence.wide.inRound l) m Tryz.prog .any ops (fun e a w => e = .normal ∧ R a w) fuel listed a w := by
  intro fuel
  induction fuel with
  | zero => exact fun _ _ _ h => h
  | succ fuel ih =>
    intro listed a w h
    refine ⟨h.1, fun i hi => ?_⟩
    have hi2 := h.2 i hi
    unfold wpOp at hi2
    unfold wpOpIn
    cases ho : ops[i]? with
    | none => rw [ho] at hi2; exact ih _ _ _ hi2
    | some o =>
      rw [ho] at hi2
      dsimp only at hi2 ⊢
      split at hi2
      · rename_i hw
        rw [if_pos hw]
        rcases hi2 with hi2 | ⟨_, a', w', hh, _⟩
        · exact oper_in (hd i o ho) (Oper.wp_mono (ih _) hi2)
        · cases hh
      · rename_i hw
        rw [if_neg hw]
        exact ⟨fun _ _ => trivial, ih _ _ _ hi2⟩

theorem region_in {id : Nat} {ops : Array Oper} {R : Act → World → Prop} {l m : Nat} {a : Act} {w : World} (hd : ops.all (fun o => match o.op with | .defer _ => false | _ => true) = true) (hm : Tryz.prog.follows .mixedOrders = true)
    (h : wpAny Tryz.prog .any ops (fun e a w => e = .normal ∧ R a w) ops.size (Array.replicate ops.size false) a w.drew) :
    (Code.region id ops true).wpIn (Fence.wide.inRound l) m Tryz.prog (fun e a w => e = .normal ∧ R a w) a w := by
  refine wpIn_region_any hm (any_in (fun i o ho c hc => ?_) _ _ _ _ h)
  have := Array.all_eq_true.1 hd
  obtain ⟨hlt, rfl⟩ := Array.getElem?_eq_some_iff.1 ho
  have := this i hlt
  rw [hc] at this
  cases this
end Go.Proofs.YtphikmigopdndaaGreatFmt
