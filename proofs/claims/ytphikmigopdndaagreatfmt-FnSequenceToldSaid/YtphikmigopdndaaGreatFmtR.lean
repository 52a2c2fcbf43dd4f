/- The told and tied card of laws.FnSequence. -/
import Derived.Test.YtphikmigopdndaaGreatFmtP
import Derived.Test.YtphikmigopdndaaGreatFmtQ
import Derived.Test.YtphikmigopdndaaGreatFmtTie
import Derived.Test.YtphikmigopdndaaGreatFmtCards
import Derived.ProofKit
import Derived.Stop.JoinedTold
import Derived.Stop.JoinedAt
import Derived.Stop.LaidErr
import Derived.SizedLaws
import Derived.SevenTiedAt
namespace Go.Proofs.YtphikmigopdndaaGreatFmt
open Go.ChangeShapes Go.WideShapes Go.ChangeAt Go.RowKit Go.Kit Go.Lib
open Go.Extern.Stop Go.Stop Go.Extern

theorem Tryz.own : ownKnob Tryz.prog.godebug = none := by kernel_rfl

set_option maxRecDepth 100000 in
theorem fnSequence_lifted (os : Os) (started : os.Started) (H : Type) (enc : TypeId × Value → H) :
    ReturnsInTold none {} Tryz.checked os 4 .any Input.okWide ((OpenSpec.ofChange Rows.fnSequenceSpec).preRow enc Tryz.prog Tryz.f4 Rows.fnSequenceRow.domain false Rows.fnSequenceRow.laid)
      (fun F => ((OpenSpec.ofChange Rows.fnSequenceSpec).at F).post enc Tryz.prog Tryz.f4 Rows.fnSequenceRow.apart Rows.fnSequenceRow.fresh Rows.fnSequenceRow.handsOn Rows.fnSequenceRow.again) (aloneAtReturn Tryz.prog) nothingAlways := by
  refine returnsInTold_of_row (C := Tryz.checked) (s := OpenSpec.ofChange Rows.fnSequenceSpec) (by kernel_rfl) Tryz.own started (by kernel_rfl) Tryz.func4
    (OpenSpec.witness_stopped_atRef (enc := enc) (C := Tryz.checked) false (laidWorld os) args0 rfl (by kernel_rfl) (by kernel_rfl) (by kernel_rfl) (witness_row os enc)) ?_
  intro F W base args ds gs before _ hF hval0 hW _ _ _ hL _
  have hval : ∀ (j : Nat) t v, Tryz.f4.params[j]? = some t → args[j]? = some v → Value.okWide Tryz.prog W .any base t v := hval0
  have hW' := hW
  obtain ⟨p, q, hA0, hV, rfl, _, _⟩ := hW
  have hA : DataW.TrodAll enc Tryz.prog W 0 (fun _ => true) true Tryz.f4.params.toList args.toList ds p := hA0
  rw [Tryz.params4] at hA hval
  obtain ⟨v0, v1, v2, d0, d1, d2, p0, p1, p2, rfl, rfl, rfl, h0, h1, h2⟩ := trodAll_three hA
  obtain ⟨rfl, rfl⟩ := trodVars_none hV
  obtain ⟨n, rfl, rfl, rfl, wn⟩ := open_int Tryz.underlying35 (hval 0 35 v0 rfl rfl) h0
  obtain ⟨m, rfl, rfl, rfl, wm⟩ := open_int Tryz.underlying35 (hval 1 35 v1 rfl rfl) h1
  obtain ⟨k, rfl, rfl, rfl, wk⟩ := open_int Tryz.underlying5 (hval 2 5 v2 rfl rfl) h2
  clear hA0 hval0
  have hL' : laidMet Tryz.prog Rows.fnSequenceRow.laid W := hL
  have hT : Tab W.heap.size W := ⟨Nat.le_refl _, tabBelow_of_tabIs (tabIs_of_head (g := 0) (t := 162) (by kernel_rfl) (by kernel_rfl) Tryz.underlying162 Tryz.underlying133 (by kernel_rfl) (by kernel_rfl) (laidMet.tail (laidMet.tail hL')))⟩
  obtain ⟨n1, n2⟩ : -32768 ≤ n ∧ n ≤ 32767 := by
    simp [Lit.wf, IntKind.min, IntKind.max, IntKind.signed, IntKind.bits] at wn
    omega
  obtain ⟨m1, m2⟩ : -32768 ≤ m ∧ m ≤ 32767 := by
    simp [Lit.wf, IntKind.min, IntKind.max, IntKind.signed, IntKind.bits] at wm
    omega
  obtain ⟨k1, k2⟩ : 0 ≤ k ∧ k ≤ 255 := by
    simp [Lit.wf, IntKind.min, IntKind.max, IntKind.signed, IntKind.bits] at wk
    omega
  refine (law_any n m k n1 n2 m1 m2 k1 k2 W.heap.size W hT).mono ?_
  rintro e W' ⟨rfl, bel⟩
  refine ⟨_, rfl, _, _, _, [], [], [], hW', ?_, ?_, rfl, bel.frame _, fun h => by cases h⟩
  · exact trodAll_mk1 (shut_bool Tryz.underlying4 true)
  · exact trodAll_mk3 (shut_int Tryz.underlying35 wn) (shut_int Tryz.underlying35 wm) (shut_int Tryz.underlying5 wk)
theorem Tryz.laidOut7 : laidOutB Tryz.pinned.checked.prog = true := by kernel_rfl
theorem Tryz.stops : Tryz.pinned.checked.prog.stops = ["fmt.Sprintf", "fmt.errorf"] := by kernel_rfl
theorem Tryz.stopKnobs : Tryz.pinned.checked.prog.stopKnobs = [] := by kernel_rfl
theorem Tryz.quiet (os : Os) : Stop.quiet Tryz.pinned.checked.prog os := by
  intro k hk
  rw [Tryz.stopKnobs] at hk
  cases hk

theorem fnSequence_holds : Rows.FnSequenceToldSaid :=
  Claim7.holds_of_told_tied_any_at .later 4 Tryz.f4 "fmt.Sprintf" ["fmt.errorf"] [] _ _ _ _ _ (by kernel_rfl) rfl rfl rfl Tryz.laidOut7 (by kernel_rfl) rfl ⟨rfl, rfl, rfl, rfl, rfl, rfl, rfl⟩ rfl rfl (by kernel_rfl) (by kernel_rfl) Tryz.func4 (by kernel_rfl)
    (of_decide_eq_true (by kernel_rfl)) (of_decide_eq_true (by kernel_rfl)) Tryz.stops.symm rfl Tryz.stopKnobs.symm (by kernel_rfl)
    (by kernel_rfl) (by kernel_rfl) (by kernel_rfl) (by kernel_rfl) (by kernel_rfl) (by kernel_rfl) (by kernel_rfl) (by kernel_rfl) (by kernel_rfl) rfl (by kernel_rfl) rfl rfl
    rfl rfl
    rfl (by kernel_rfl) (by kernel_rfl) (by kernel_rfl) (by decide) (by kernel_rfl) fnSequence_row_tie
    (OpenClaim.moreEntering_of (by kernel_rfl) (by kernel_rfl) (by kernel_rfl) (by kernel_rfl) (by kernel_rfl) (by kernel_rfl) (by kernel_rfl) (by kernel_rfl) (by kernel_rfl) (by kernel_rfl))
    ⟨_, WideRow.started_initial, Tryz.quiet _⟩
    (fun os started _ H enc _ => fnSequence_lifted os started H enc)
end Go.Proofs.YtphikmigopdndaaGreatFmt
