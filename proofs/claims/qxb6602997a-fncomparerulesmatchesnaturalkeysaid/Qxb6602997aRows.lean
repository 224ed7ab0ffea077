/-
  No cell of these rows narrows 'for every input' (looked for: loops, veiled, ifaces, maps, wideKeys, modest, calm, conditions, laid).
  DERIVED. THE GIVEN ROWS OF THIS SEAT. 8 by the template 'for every input the law returns true; each argument reads behind the call as it read before'; 0 by the template 'total and deterministic' (their statements: Qxb6602997aTotals.lean).
  GIVEN WITH THE SEED: the statements are not yours to turn. If you find one false, say at which input.
  Laid BY PROGRAM, IN A SANDBOX (cutbox-rows.mjs): the forced cells as the released guide's own fill.sh prints them over the translation 280798d6d1cd2dd1… (all of the seat's roots in one cut). By AI agents, Wed Nov 11 2026. No macro, syntax, notation, axiom, sorry.
-/
import Derived.Test.Qxb6602997aChecked
import GoSem.Claim
import GoSem.ClaimJoined
import GoSem.ClaimMapViews
import Derived.JoinedTies
import Derived.KernelRfl
namespace Go.Proofs.Qxb6602997a
/- THE CELL 'sum', in the pinned program and in every row, IS THE sha256 OF THE DUMP (.gsa) THAT Qxb6602997aProg.lean LOADS. Nothing in Lean hashes anything: it is a label: what it is worth is what the hold of that sum in a sandbox is worth. -/
noncomputable def Try.pinned : Pinned := { name := "qxb6602997a", sum := "280798d6d1cd2dd1a4726a2bb091184b860538f2f3e906742b3518a115808dfa", checked := Try.checked }
namespace Rows
def none {H : Type} : Left H := { results := [], args := [] }

/-- 'zzlaws_pkg_breaches_b1.FnDigitRunEndsTheRun': WHATEVER THE INPUT: true; the input reads as it did. -/
def fnDigitRunEndsTheRunSpec : ChangeSpec := { name := "fnDigitRunEndsTheRun", fn := fun _ => fun
  | [d1, d2] => { results := [.lit (.bool true)], args := [d1, d2] }
  | _ => none }
def fnDigitRunEndsTheRunRow : OpenClaim := { program := "qxb6602997a", sum := "280798d6d1cd2dd1a4726a2bb091184b860538f2f3e906742b3518a115808dfa", func := "example.com/custodia/custodia/zzlaws_pkg_breaches_b1.FnDigitRunEndsTheRun", spec := "fnDigitRunEndsTheRun", apart := false }
def FnDigitRunEndsTheRunSaid : Prop := fnDigitRunEndsTheRunRow.holds Try.pinned (OpenSpec.ofChange fnDigitRunEndsTheRunSpec)

/-- ITS FALSE NEIGHBOUR: 'it returns false'. Refute it at one input. -/
def fnDigitRunEndsTheRunWrong : ChangeSpec := { name := "fnDigitRunEndsTheRun", fn := fun _ => fun
  | [d1, d2] => { results := [.lit (.bool false)], args := [d1, d2] }
  | _ => none }
def FnDigitRunEndsTheRunWrongFalsely : Prop := fnDigitRunEndsTheRunRow.holds Try.pinned (OpenSpec.ofChange fnDigitRunEndsTheRunWrong)

/-- 'zzlaws_pkg_breaches_b1.FnDigitRunSplitsOverConcatenation': WHATEVER THE INPUT: true; the input reads as it did. -/
def fnDigitRunSplitsOverConcatenationSpec : ChangeSpec := { name := "fnDigitRunSplitsOverConcatenation", fn := fun _ => fun
  | [d1, d2, d3] => { results := [.lit (.bool true)], args := [d1, d2, d3] }
  | _ => none }
def fnDigitRunSplitsOverConcatenationRow : OpenClaim := { program := "qxb6602997a", sum := "280798d6d1cd2dd1a4726a2bb091184b860538f2f3e906742b3518a115808dfa", func := "example.com/custodia/custodia/zzlaws_pkg_breaches_b1.FnDigitRunSplitsOverConcatenation", spec := "fnDigitRunSplitsOverConcatenation", apart := false }
def FnDigitRunSplitsOverConcatenationSaid : Prop := fnDigitRunSplitsOverConcatenationRow.holds Try.pinned (OpenSpec.ofChange fnDigitRunSplitsOverConcatenationSpec)

/-- ITS FALSE NEIGHBOUR: 'it returns false'. Refute it at one input. -/
def fnDigitRunSplitsOverConcatenationWrong : ChangeSpec := { name := "fnDigitRunSplitsOverConcatenation", fn := fun _ => fun
  | [d1, d2, d3] => { results := [.lit (.bool false)], args := [d1, d2, d3] }
  | _ => none }
def FnDigitRunSplitsOverConcatenationWrongFalsely : Prop := fnDigitRunSplitsOverConcatenationRow.holds Try.pinned (OpenSpec.ofChange fnDigitRunSplitsOverConcatenationWrong)

/-- 'zzlaws_pkg_breaches_b1.FnCompareNumbersMatchesLongSubtraction': WHATEVER THE INPUT: true; the input reads as it did. -/
def fnCompareNumbersMatchesLongSubtractionSpec : ChangeSpec := { name := "fnCompareNumbersMatchesLongSubtraction", fn := fun _ => fun
  | [d1, d2] => { results := [.lit (.bool true)], args := [d1, d2] }
  | _ => none }
def fnCompareNumbersMatchesLongSubtractionRow : OpenClaim := { program := "qxb6602997a", sum := "280798d6d1cd2dd1a4726a2bb091184b860538f2f3e906742b3518a115808dfa", func := "example.com/custodia/custodia/zzlaws_pkg_breaches_b1.FnCompareNumbersMatchesLongSubtraction", spec := "fnCompareNumbersMatchesLongSubtraction", apart := false }
def FnCompareNumbersMatchesLongSubtractionSaid : Prop := fnCompareNumbersMatchesLongSubtractionRow.holds Try.pinned (OpenSpec.ofChange fnCompareNumbersMatchesLongSubtractionSpec)

/-- ITS FALSE NEIGHBOUR: 'it returns false'. Refute it at one input. -/
def fnCompareNumbersMatchesLongSubtractionWrong : ChangeSpec := { name := "fnCompareNumbersMatchesLongSubtraction", fn := fun _ => fun
  | [d1, d2] => { results := [.lit (.bool false)], args := [d1, d2] }
  | _ => none }
def FnCompareNumbersMatchesLongSubtractionWrongFalsely : Prop := fnCompareNumbersMatchesLongSubtractionRow.holds Try.pinned (OpenSpec.ofChange fnCompareNumbersMatchesLongSubtractionWrong)

/-- 'zzlaws_pkg_breaches_b1.FnCompareNumbersAntisymmetric': WHATEVER THE INPUT: true; the input reads as it did. -/
def fnCompareNumbersAntisymmetricSpec : ChangeSpec := { name := "fnCompareNumbersAntisymmetric", fn := fun _ => fun
  | [d1, d2] => { results := [.lit (.bool true)], args := [d1, d2] }
  | _ => none }
def fnCompareNumbersAntisymmetricRow : OpenClaim := { program := "qxb6602997a", sum := "280798d6d1cd2dd1a4726a2bb091184b860538f2f3e906742b3518a115808dfa", func := "example.com/custodia/custodia/zzlaws_pkg_breaches_b1.FnCompareNumbersAntisymmetric", spec := "fnCompareNumbersAntisymmetric", apart := false }
def FnCompareNumbersAntisymmetricSaid : Prop := fnCompareNumbersAntisymmetricRow.holds Try.pinned (OpenSpec.ofChange fnCompareNumbersAntisymmetricSpec)

/-- ITS FALSE NEIGHBOUR: 'it returns false'. Refute it at one input. -/
def fnCompareNumbersAntisymmetricWrong : ChangeSpec := { name := "fnCompareNumbersAntisymmetric", fn := fun _ => fun
  | [d1, d2] => { results := [.lit (.bool false)], args := [d1, d2] }
  | _ => none }
def FnCompareNumbersAntisymmetricWrongFalsely : Prop := fnCompareNumbersAntisymmetricRow.holds Try.pinned (OpenSpec.ofChange fnCompareNumbersAntisymmetricWrong)

/-- 'zzlaws_pkg_breaches_b1.FnCompareNumbersTransitive': WHATEVER THE INPUT: true; the input reads as it did. -/
def fnCompareNumbersTransitiveSpec : ChangeSpec := { name := "fnCompareNumbersTransitive", fn := fun _ => fun
  | [d1, d2, d3] => { results := [.lit (.bool true)], args := [d1, d2, d3] }
  | _ => none }
def fnCompareNumbersTransitiveRow : OpenClaim := { program := "qxb6602997a", sum := "280798d6d1cd2dd1a4726a2bb091184b860538f2f3e906742b3518a115808dfa", func := "example.com/custodia/custodia/zzlaws_pkg_breaches_b1.FnCompareNumbersTransitive", spec := "fnCompareNumbersTransitive", apart := false }
def FnCompareNumbersTransitiveSaid : Prop := fnCompareNumbersTransitiveRow.holds Try.pinned (OpenSpec.ofChange fnCompareNumbersTransitiveSpec)

/-- ITS FALSE NEIGHBOUR: 'it returns false'. Refute it at one input. -/
def fnCompareNumbersTransitiveWrong : ChangeSpec := { name := "fnCompareNumbersTransitive", fn := fun _ => fun
  | [d1, d2, d3] => { results := [.lit (.bool false)], args := [d1, d2, d3] }
  | _ => none }
def FnCompareNumbersTransitiveWrongFalsely : Prop := fnCompareNumbersTransitiveRow.holds Try.pinned (OpenSpec.ofChange fnCompareNumbersTransitiveWrong)

/-- 'zzlaws_pkg_breaches_b1.FnCompareRulesMatchesNaturalKey': WHATEVER THE INPUT: true; the input reads as it did. -/
def fnCompareRulesMatchesNaturalKeySpec : ChangeSpec := { name := "fnCompareRulesMatchesNaturalKey", fn := fun _ => fun
  | [d1, d2] => { results := [.lit (.bool true)], args := [d1, d2] }
  | _ => none }
def fnCompareRulesMatchesNaturalKeyRow : OpenClaim := { program := "qxb6602997a", sum := "280798d6d1cd2dd1a4726a2bb091184b860538f2f3e906742b3518a115808dfa", func := "example.com/custodia/custodia/zzlaws_pkg_breaches_b1.FnCompareRulesMatchesNaturalKey", spec := "fnCompareRulesMatchesNaturalKey", apart := false }
def FnCompareRulesMatchesNaturalKeySaid : Prop := fnCompareRulesMatchesNaturalKeyRow.holds Try.pinned (OpenSpec.ofChange fnCompareRulesMatchesNaturalKeySpec)

/-- ITS FALSE NEIGHBOUR: 'it returns false'. Refute it at one input. -/
def fnCompareRulesMatchesNaturalKeyWrong : ChangeSpec := { name := "fnCompareRulesMatchesNaturalKey", fn := fun _ => fun
  | [d1, d2] => { results := [.lit (.bool false)], args := [d1, d2] }
  | _ => none }
def FnCompareRulesMatchesNaturalKeyWrongFalsely : Prop := fnCompareRulesMatchesNaturalKeyRow.holds Try.pinned (OpenSpec.ofChange fnCompareRulesMatchesNaturalKeyWrong)

/-- 'zzlaws_pkg_breaches_b1.FnCompareRulesAntisymmetric': WHATEVER THE INPUT: true; the input reads as it did. -/
def fnCompareRulesAntisymmetricSpec : ChangeSpec := { name := "fnCompareRulesAntisymmetric", fn := fun _ => fun
  | [d1, d2] => { results := [.lit (.bool true)], args := [d1, d2] }
  | _ => none }
def fnCompareRulesAntisymmetricRow : OpenClaim := { program := "qxb6602997a", sum := "280798d6d1cd2dd1a4726a2bb091184b860538f2f3e906742b3518a115808dfa", func := "example.com/custodia/custodia/zzlaws_pkg_breaches_b1.FnCompareRulesAntisymmetric", spec := "fnCompareRulesAntisymmetric", apart := false }
def FnCompareRulesAntisymmetricSaid : Prop := fnCompareRulesAntisymmetricRow.holds Try.pinned (OpenSpec.ofChange fnCompareRulesAntisymmetricSpec)

/-- ITS FALSE NEIGHBOUR: 'it returns false'. Refute it at one input. -/
def fnCompareRulesAntisymmetricWrong : ChangeSpec := { name := "fnCompareRulesAntisymmetric", fn := fun _ => fun
  | [d1, d2] => { results := [.lit (.bool false)], args := [d1, d2] }
  | _ => none }
def FnCompareRulesAntisymmetricWrongFalsely : Prop := fnCompareRulesAntisymmetricRow.holds Try.pinned (OpenSpec.ofChange fnCompareRulesAntisymmetricWrong)

/-- 'zzlaws_pkg_breaches_b1.FnCompareRulesTransitive': WHATEVER THE INPUT: true; the input reads as it did. -/
def fnCompareRulesTransitiveSpec : ChangeSpec := { name := "fnCompareRulesTransitive", fn := fun _ => fun
  | [d1, d2, d3] => { results := [.lit (.bool true)], args := [d1, d2, d3] }
  | _ => none }
def fnCompareRulesTransitiveRow : OpenClaim := { program := "qxb6602997a", sum := "280798d6d1cd2dd1a4726a2bb091184b860538f2f3e906742b3518a115808dfa", func := "example.com/custodia/custodia/zzlaws_pkg_breaches_b1.FnCompareRulesTransitive", spec := "fnCompareRulesTransitive", apart := false }
def FnCompareRulesTransitiveSaid : Prop := fnCompareRulesTransitiveRow.holds Try.pinned (OpenSpec.ofChange fnCompareRulesTransitiveSpec)

/-- ITS FALSE NEIGHBOUR: 'it returns false'. Refute it at one input. -/
def fnCompareRulesTransitiveWrong : ChangeSpec := { name := "fnCompareRulesTransitive", fn := fun _ => fun
  | [d1, d2, d3] => { results := [.lit (.bool false)], args := [d1, d2, d3] }
  | _ => none }
def FnCompareRulesTransitiveWrongFalsely : Prop := fnCompareRulesTransitiveRow.holds Try.pinned (OpenSpec.ofChange fnCompareRulesTransitiveWrong)

end Rows
end Go.Proofs.Qxb6602997a
