/-
  No cell of these rows narrows 'for every input' (looked for: loops, veiled, ifaces, maps, wideKeys, modest, calm, conditions, laid).
  DERIVED. THE GIVEN ROWS OF THIS SEAT. 2 by the template 'for every input the law returns true; each argument reads behind the call as it read before'; 0 by the template 'total and deterministic' (their statements: Qxb6604151aTotals.lean).
  GIVEN WITH THE SEED: the statements are not yours to turn. If you find one false, say at which input.
  Laid BY PROGRAM, IN A SANDBOX (cutbox-rows.mjs): the forced cells as the released guide's own fill.sh prints them over the translation e459cec612d5dbbf… (all of the seat's roots in one cut). By AI agents, Wed Nov 11 2026. No macro, syntax, notation, axiom, sorry.
-/
import Derived.Test.Qxb6604151aChecked
import GoSem.Claim
import GoSem.ClaimJoined
import GoSem.ClaimMapViews
import Derived.JoinedTies
import Derived.KernelRfl
namespace Go.Proofs.Qxb6604151a
/- THE CELL 'sum', in the pinned program and in every row, IS THE sha256 OF THE DUMP (.gsa) THAT Qxb6604151aProg.lean LOADS. Nothing in Lean hashes anything: it is a label: what it is worth is what the hold of that sum in a sandbox is worth. -/
noncomputable def Try.pinned : Pinned := { name := "qxb6604151a", sum := "e459cec612d5dbbf29fea11849305e000c7b8533a51209802eb47ca4fcd62aef", checked := Try.checked }
namespace Rows
def none {H : Type} : Left H := { results := [], args := [] }

/-- 'zzlaws_internal_workload_b1.FnInsideLongerExact': WHATEVER THE INPUT: true; the input reads as it did. -/
def fnInsideLongerExactSpec : ChangeSpec := { name := "fnInsideLongerExact", fn := fun _ => fun
  | [d] => { results := [.lit (.bool true)], args := [d] }
  | _ => none }
def fnInsideLongerExactRow : OpenClaim := { program := "qxb6604151a", sum := "e459cec612d5dbbf29fea11849305e000c7b8533a51209802eb47ca4fcd62aef", func := "example.com/casloc/casloc/zzlaws_internal_workload_b1.FnInsideLongerExact", spec := "fnInsideLongerExact", inPlace := ["internal/bytealg.MakeNoZero", "internal/bytealg.Count", "internal/bytealg.IndexByte", "internal/bytealg.Index"], named := ["internal/bytealg.MaxLen"], apart := false }
def FnInsideLongerExactSaid : Prop := fnInsideLongerExactRow.holds Try.pinned (OpenSpec.ofChange fnInsideLongerExactSpec)

/-- ITS FALSE NEIGHBOUR: 'it returns false'. Refute it at one input. -/
def fnInsideLongerExactWrong : ChangeSpec := { name := "fnInsideLongerExact", fn := fun _ => fun
  | [d] => { results := [.lit (.bool false)], args := [d] }
  | _ => none }
def FnInsideLongerExactWrongFalsely : Prop := fnInsideLongerExactRow.holds Try.pinned (OpenSpec.ofChange fnInsideLongerExactWrong)

/-- 'zzlaws_internal_workload_b1.FnInsideLongerLongPatternsLieInsideButNeverMatch': WHATEVER THE INPUT: true; the input reads as it did. -/
def fnInsideLongerLongPatternsLieInsideButNeverMatchSpec : ChangeSpec := { name := "fnInsideLongerLongPatternsLieInsideButNeverMatch", fn := fun _ => fun
  | [d] => { results := [.lit (.bool true)], args := [d] }
  | _ => none }
def fnInsideLongerLongPatternsLieInsideButNeverMatchRow : OpenClaim := { program := "qxb6604151a", sum := "e459cec612d5dbbf29fea11849305e000c7b8533a51209802eb47ca4fcd62aef", func := "example.com/casloc/casloc/zzlaws_internal_workload_b1.FnInsideLongerLongPatternsLieInsideButNeverMatch", spec := "fnInsideLongerLongPatternsLieInsideButNeverMatch", inPlace := ["internal/bytealg.MakeNoZero", "internal/bytealg.Count", "internal/bytealg.IndexByte", "internal/bytealg.Index"], named := ["internal/bytealg.MaxLen"], apart := false }
def FnInsideLongerLongPatternsLieInsideButNeverMatchSaid : Prop := fnInsideLongerLongPatternsLieInsideButNeverMatchRow.holds Try.pinned (OpenSpec.ofChange fnInsideLongerLongPatternsLieInsideButNeverMatchSpec)

/-- ITS FALSE NEIGHBOUR: 'it returns false'. Refute it at one input. -/
def fnInsideLongerLongPatternsLieInsideButNeverMatchWrong : ChangeSpec := { name := "fnInsideLongerLongPatternsLieInsideButNeverMatch", fn := fun _ => fun
  | [d] => { results := [.lit (.bool false)], args := [d] }
  | _ => none }
def FnInsideLongerLongPatternsLieInsideButNeverMatchWrongFalsely : Prop := fnInsideLongerLongPatternsLieInsideButNeverMatchRow.holds Try.pinned (OpenSpec.ofChange fnInsideLongerLongPatternsLieInsideButNeverMatchWrong)

end Rows
end Go.Proofs.Qxb6604151a
