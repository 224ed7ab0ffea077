/-
  No cell of these rows narrows 'for every input' (looked for: loops, veiled, ifaces, maps, wideKeys, modest, calm, conditions, laid).
  DERIVED. THE GIVEN ROWS OF THIS SEAT. 3 by the template 'for every input the law returns true; each argument reads behind the call as it read before'; 0 by the template 'total and deterministic' (their statements: Qxb6603561aTotals.lean).
  GIVEN WITH THE SEED: the statements are not yours to turn. If you find one false, say at which input.
  Laid BY PROGRAM, IN A SANDBOX (cutbox-rows.mjs): the forced cells as the released guide's own fill.sh prints them over the translation ac175cd1931d3c94… (all of the seat's roots in one cut). By AI agents, Wed Nov 11 2026. No macro, syntax, notation, axiom, sorry.
-/
import Derived.Test.Qxb6603561aChecked
import GoSem.Claim
import GoSem.ClaimJoined
import GoSem.ClaimMapViews
import Derived.JoinedTies
import Derived.KernelRfl
namespace Go.Proofs.Qxb6603561a
/- THE CELL 'sum', in the pinned program and in every row, IS THE sha256 OF THE DUMP (.gsa) THAT Qxb6603561aProg.lean LOADS. Nothing in Lean hashes anything: it is a label: what it is worth is what the hold of that sum in a sandbox is worth. -/
noncomputable def Try.pinned : Pinned := { name := "qxb6603561a", sum := "ac175cd1931d3c949bf0aa8b910cbe7636ddc7aee1b98b7ad290542964e9ad95", checked := Try.checked }
namespace Rows
def none {H : Type} : Left H := { results := [], args := [] }

/-- 'zzlaws_root_b1.FnWriteSpacesIsOneSpaceAtATime': WHATEVER THE INPUT: true; the input reads as it did. -/
def fnWriteSpacesIsOneSpaceAtATimeSpec : ChangeSpec := { name := "fnWriteSpacesIsOneSpaceAtATime", fn := fun _ => fun
  | [d1, d2, d3, d4] => { results := [.lit (.bool true)], args := [d1, d2, d3, d4] }
  | _ => none }
def fnWriteSpacesIsOneSpaceAtATimeRow : OpenClaim := { program := "qxb6603561a", sum := "ac175cd1931d3c949bf0aa8b910cbe7636ddc7aee1b98b7ad290542964e9ad95", func := "example.com/furrow/furrow/zzlaws_root_b1.FnWriteSpacesIsOneSpaceAtATime", spec := "fnWriteSpacesIsOneSpaceAtATime", apart := false }
def FnWriteSpacesIsOneSpaceAtATimeSaid : Prop := fnWriteSpacesIsOneSpaceAtATimeRow.holds Try.pinned (OpenSpec.ofChange fnWriteSpacesIsOneSpaceAtATimeSpec)

/-- ITS FALSE NEIGHBOUR: 'it returns false'. Refute it at one input. -/
def fnWriteSpacesIsOneSpaceAtATimeWrong : ChangeSpec := { name := "fnWriteSpacesIsOneSpaceAtATime", fn := fun _ => fun
  | [d1, d2, d3, d4] => { results := [.lit (.bool false)], args := [d1, d2, d3, d4] }
  | _ => none }
def FnWriteSpacesIsOneSpaceAtATimeWrongFalsely : Prop := fnWriteSpacesIsOneSpaceAtATimeRow.holds Try.pinned (OpenSpec.ofChange fnWriteSpacesIsOneSpaceAtATimeWrong)

/-- 'zzlaws_root_b1.FnWriteSpacesSplitRunIsOneRun': WHATEVER THE INPUT: true; the input reads as it did. -/
def fnWriteSpacesSplitRunIsOneRunSpec : ChangeSpec := { name := "fnWriteSpacesSplitRunIsOneRun", fn := fun _ => fun
  | [d1, d2, d3, d4, d5] => { results := [.lit (.bool true)], args := [d1, d2, d3, d4, d5] }
  | _ => none }
def fnWriteSpacesSplitRunIsOneRunRow : OpenClaim := { program := "qxb6603561a", sum := "ac175cd1931d3c949bf0aa8b910cbe7636ddc7aee1b98b7ad290542964e9ad95", func := "example.com/furrow/furrow/zzlaws_root_b1.FnWriteSpacesSplitRunIsOneRun", spec := "fnWriteSpacesSplitRunIsOneRun", apart := false }
def FnWriteSpacesSplitRunIsOneRunSaid : Prop := fnWriteSpacesSplitRunIsOneRunRow.holds Try.pinned (OpenSpec.ofChange fnWriteSpacesSplitRunIsOneRunSpec)

/-- ITS FALSE NEIGHBOUR: 'it returns false'. Refute it at one input. -/
def fnWriteSpacesSplitRunIsOneRunWrong : ChangeSpec := { name := "fnWriteSpacesSplitRunIsOneRun", fn := fun _ => fun
  | [d1, d2, d3, d4, d5] => { results := [.lit (.bool false)], args := [d1, d2, d3, d4, d5] }
  | _ => none }
def FnWriteSpacesSplitRunIsOneRunWrongFalsely : Prop := fnWriteSpacesSplitRunIsOneRunRow.holds Try.pinned (OpenSpec.ofChange fnWriteSpacesSplitRunIsOneRunWrong)

/-- 'zzlaws_root_b1.FnAppendedTextWriteTwiceIsOnce': WHATEVER THE INPUT: true; the input reads as it did. -/
def fnAppendedTextWriteTwiceIsOnceSpec : ChangeSpec := { name := "fnAppendedTextWriteTwiceIsOnce", fn := fun _ => fun
  | [d1, d2, d3] => { results := [.lit (.bool true)], args := [d1, d2, d3] }
  | _ => none }
def fnAppendedTextWriteTwiceIsOnceRow : OpenClaim := { program := "qxb6603561a", sum := "ac175cd1931d3c949bf0aa8b910cbe7636ddc7aee1b98b7ad290542964e9ad95", func := "example.com/furrow/furrow/zzlaws_root_b1.FnAppendedTextWriteTwiceIsOnce", spec := "fnAppendedTextWriteTwiceIsOnce", apart := false }
def FnAppendedTextWriteTwiceIsOnceSaid : Prop := fnAppendedTextWriteTwiceIsOnceRow.holds Try.pinned (OpenSpec.ofChange fnAppendedTextWriteTwiceIsOnceSpec)

/-- ITS FALSE NEIGHBOUR: 'it returns false'. Refute it at one input. -/
def fnAppendedTextWriteTwiceIsOnceWrong : ChangeSpec := { name := "fnAppendedTextWriteTwiceIsOnce", fn := fun _ => fun
  | [d1, d2, d3] => { results := [.lit (.bool false)], args := [d1, d2, d3] }
  | _ => none }
def FnAppendedTextWriteTwiceIsOnceWrongFalsely : Prop := fnAppendedTextWriteTwiceIsOnceRow.holds Try.pinned (OpenSpec.ofChange fnAppendedTextWriteTwiceIsOnceWrong)

end Rows
end Go.Proofs.Qxb6603561a
