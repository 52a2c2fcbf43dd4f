/- The start that is shown to be there: the five listed variables hold what their initialisers lay. -/
import Derived.Test.YtphikmigopdndaaGreatFmtRows
import Derived.Deep.DeepWitnessRef
import Derived.Lib.LaidIn
import Derived.Lib.LaidTab
import Derived.ProofKit
import Derived.Stop.JoinedTold
import Derived.Stop.JoinedAt
namespace Go.Proofs.YtphikmigopdndaaGreatFmt
open Go.Lib

def tabOf : DataW Unit → Array Value
  | .agg xs => (xs.map fun
    | .lit (.int k z) => Value.int k z
    | _ => undef).toArray
  | _ => #[]

noncomputable def laidWorld (os : Os) : World :=
  let N := (World.settled Tryz.prog os).heap.size
  let w0 := World.holding Tryz.prog os ⟨#[
    .cells #[.string ⟨#[118, 97, 108, 117, 101, 32, 111, 117, 116, 32, 111, 102, 32, 114, 97, 110, 103, 101]⟩] 144,
    .cells #[.string ⟨#[105, 110, 118, 97, 108, 105, 100, 32, 115, 121, 110, 116, 97, 120]⟩] 144], #[], []⟩
  let put (h : Array Obj) (g : Nat) (cs : Array Value) : Array Obj := h.modify g fun
    | .cells _ t frozen => .cells cs t frozen
    | o => o
  let h0 := put (put w0.heap 2 #[.iface 142 (.pointer (some ⟨N, 0, none⟩))]) 1 #[.iface 142 (.pointer (some ⟨N + 1, 0, none⟩))]
  let h1 := put (put (put h0 4 (tabOf Rows.laid_math_bits_deBruijn32tab)) 5 (tabOf Rows.laid_math_bits_deBruijn64tab)) 0 (tabOf Rows.laid_internal_strconv_uint64pow10)
  { w0 with heap := h1 }

noncomputable abbrev N0 : Nat := (World.settled Tryz.prog default).heap.size

abbrev args0 : Array Value := #[.int .i16 0, .int .i16 0, .int .u8 0]

set_option maxRecDepth 1000000 in
theorem laid_met (os : Os) (args : Array Value) : laidMet Tryz.prog Rows.fnSequenceRow.laid ((laidWorld os).forCall (fun _ _ => 0) ⟨#[], args, []⟩).memory :=
  (LaidIn.of_run [4, 5, 0, 2, N0, 1, N0 + 1] 10 (by kernel_rfl) (by kernel_rfl) (by kernel_rfl) (by kernel_rfl)).met

theorem witness_row (os : Os) {H : Type} (enc : TypeId × Value → H) :
    (OpenSpec.ofChange Rows.fnSequenceSpec).preRow enc Tryz.prog Tryz.f4 Rows.fnSequenceRow.domain false Rows.fnSequenceRow.laid ((laidWorld os).forCall (fun _ _ => 0) ⟨#[], args0, []⟩).memory args0 := by
  have hw : (DataW.whole enc Tryz.prog ((laidWorld os).forCall (fun _ _ => 0) ⟨#[], args0, []⟩).memory Tryz.f4.params.toList (OpenSpec.ofChange Rows.fnSequenceSpec).vars false args0.toList 8).map (fun x => (x.1, x.2.1)) =
      some ([.lit (.int .i16 0), .lit (.int .i16 0), .lit (.int .u8 0)], []) := by kernel_rfl
  obtain ⟨⟨x1, x2, x3⟩, hx, hx1⟩ := Option.map_eq_some_iff.1 hw
  simp only [Prod.mk.injEq] at hx1
  obtain ⟨rfl, rfl⟩ := hx1
  exact OpenSpec.preRow_of_cond 8 hx (by kernel_rfl) (fun k hk => by cases hk) (by kernel_rfl) (laid_met os _)
end Go.Proofs.YtphikmigopdndaaGreatFmt
