/-
  No cell of these rows narrows 'for every input' (looked for: loops, veiled, ifaces, maps, wideKeys, modest, calm, conditions, laid).
  DERIVED. THE GIVEN ROWS OF THIS SEAT. 2 by the template 'for every input the law returns true; each argument reads behind the call as it read before'; 0 by the template 'total and deterministic' (their statements: Qxb6604061aTotals.lean).
  GIVEN WITH THE SEED: the statements are not yours to turn. If you find one false, say at which input.
  Laid BY PROGRAM, IN A SANDBOX (cutbox-rows.mjs): the forced cells as the released guide's own fill.sh prints them over the translation ca3d74466b400047… (all of the seat's roots in one cut). By AI agents, Wed Nov 11 2026. No macro, syntax, notation, axiom, sorry.
-/
import Derived.Test.Qxb6604061aChecked
import GoSem.Claim
import GoSem.ClaimJoined
import GoSem.ClaimMapViews
import Derived.JoinedTies
import Derived.KernelRfl
namespace Go.Proofs.Qxb6604061a
/- THE CELL 'sum', in the pinned program and in every row, IS THE sha256 OF THE DUMP (.gsa) THAT Qxb6604061aProg.lean LOADS. Nothing in Lean hashes anything: it is a label: what it is worth is what the hold of that sum in a sandbox is worth. -/
noncomputable def Try.pinned : Pinned := { name := "qxb6604061a", sum := "ca3d74466b400047e2a2669f16f46c70152d30b4cf1753c2a11b4cc454c6cab5", checked := Try.checked }
namespace Rows
def none {H : Type} : Left H := { results := [], args := [] }

/-- 'zzlaws_tools_history_b1.FnCompleteJoinsPredecessorClocks': WHATEVER THE INPUT: true; the input reads as it did. -/
def fnCompleteJoinsPredecessorClocksSpec : ChangeSpec := { name := "fnCompleteJoinsPredecessorClocks", fn := fun _ => fun
  | [d1, d2, d3, d4, d5, d6, d7, d8, d9, d10] => { results := [.lit (.bool true)], args := [d1, d2, d3, d4, d5, d6, d7, d8, d9, d10] }
  | _ => none }
def fnCompleteJoinsPredecessorClocksRow : OpenClaim := { program := "qxb6604061a", sum := "ca3d74466b400047e2a2669f16f46c70152d30b4cf1753c2a11b4cc454c6cab5", func := "example.com/clockshard/clockshard/zzlaws_tools_history_b1.FnCompleteJoinsPredecessorClocks", spec := "fnCompleteJoinsPredecessorClocks", apart := false }
def FnCompleteJoinsPredecessorClocksSaid : Prop := fnCompleteJoinsPredecessorClocksRow.holds Try.pinned (OpenSpec.ofChange fnCompleteJoinsPredecessorClocksSpec)

/-- ITS FALSE NEIGHBOUR: 'it returns false'. Refute it at one input. -/
def fnCompleteJoinsPredecessorClocksWrong : ChangeSpec := { name := "fnCompleteJoinsPredecessorClocks", fn := fun _ => fun
  | [d1, d2, d3, d4, d5, d6, d7, d8, d9, d10] => { results := [.lit (.bool false)], args := [d1, d2, d3, d4, d5, d6, d7, d8, d9, d10] }
  | _ => none }
def FnCompleteJoinsPredecessorClocksWrongFalsely : Prop := fnCompleteJoinsPredecessorClocksRow.holds Try.pinned (OpenSpec.ofChange fnCompleteJoinsPredecessorClocksWrong)

/-- 'zzlaws_tools_history_b1.FnCompleteScriptClocksAreCausalPasts': WHATEVER THE INPUT: true; the input reads as it did. -/
def fnCompleteScriptClocksAreCausalPastsSpec : ChangeSpec := { name := "fnCompleteScriptClocksAreCausalPasts", fn := fun _ => fun
  | [d1, d2, d3, d4, d5, d6, d7] => { results := [.lit (.bool true)], args := [d1, d2, d3, d4, d5, d6, d7] }
  | _ => none }
def fnCompleteScriptClocksAreCausalPastsRow : OpenClaim := { program := "qxb6604061a", sum := "ca3d74466b400047e2a2669f16f46c70152d30b4cf1753c2a11b4cc454c6cab5", func := "example.com/clockshard/clockshard/zzlaws_tools_history_b1.FnCompleteScriptClocksAreCausalPasts", spec := "fnCompleteScriptClocksAreCausalPasts", apart := false }
def FnCompleteScriptClocksAreCausalPastsSaid : Prop := fnCompleteScriptClocksAreCausalPastsRow.holds Try.pinned (OpenSpec.ofChange fnCompleteScriptClocksAreCausalPastsSpec)

/-- ITS FALSE NEIGHBOUR: 'it returns false'. Refute it at one input. -/
def fnCompleteScriptClocksAreCausalPastsWrong : ChangeSpec := { name := "fnCompleteScriptClocksAreCausalPasts", fn := fun _ => fun
  | [d1, d2, d3, d4, d5, d6, d7] => { results := [.lit (.bool false)], args := [d1, d2, d3, d4, d5, d6, d7] }
  | _ => none }
def FnCompleteScriptClocksAreCausalPastsWrongFalsely : Prop := fnCompleteScriptClocksAreCausalPastsRow.holds Try.pinned (OpenSpec.ofChange fnCompleteScriptClocksAreCausalPastsWrong)

end Rows
end Go.Proofs.Qxb6604061a
