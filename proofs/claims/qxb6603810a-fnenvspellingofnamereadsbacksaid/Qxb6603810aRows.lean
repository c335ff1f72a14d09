/-
  No cell of these rows narrows 'for every input' (looked for: loops, veiled, ifaces, maps, wideKeys, modest, calm, conditions, laid).
  DERIVED. THE GIVEN ROWS OF THIS SEAT. 5 by the template 'for every input the law returns true; each argument reads behind the call as it read before'; 0 by the template 'total and deterministic' (their statements: Qxb6603810aTotals.lean).
  GIVEN WITH THE SEED: the statements are not yours to turn. If you find one false, say at which input.
  Laid BY PROGRAM, IN A SANDBOX (cutbox-rows.mjs): the forced cells as the released guide's own fill.sh prints them over the translation 289dd4dc6d7ca284… (all of the seat's roots in one cut). By AI agents, Wed Nov 11 2026. No macro, syntax, notation, axiom, sorry.
-/
import Derived.Test.Qxb6603810aChecked
import GoSem.Claim
import GoSem.ClaimJoined
import GoSem.ClaimMapViews
import Derived.JoinedTies
import Derived.KernelRfl
namespace Go.Proofs.Qxb6603810a
/- THE CELL 'sum', in the pinned program and in every row, IS THE sha256 OF THE DUMP (.gsa) THAT Qxb6603810aProg.lean LOADS. Nothing in Lean hashes anything: it is a label: what it is worth is what the hold of that sum in a sandbox is worth. -/
noncomputable def Try.pinned : Pinned := { name := "qxb6603810a", sum := "289dd4dc6d7ca28493ff49ea0630f621555bcd9e54777360b8129084ccf68e2f", checked := Try.checked }
namespace Rows
def none {H : Type} : Left H := { results := [], args := [] }

/-- 'zzlaws_root_b1.FnIsNameMatchesSegmentGrammar': WHATEVER THE INPUT: true; the input reads as it did. -/
def fnIsNameMatchesSegmentGrammarSpec : ChangeSpec := { name := "fnIsNameMatchesSegmentGrammar", fn := fun _ => fun
  | [d] => { results := [.lit (.bool true)], args := [d] }
  | _ => none }
def fnIsNameMatchesSegmentGrammarRow : OpenClaim := { program := "qxb6603810a", sum := "289dd4dc6d7ca28493ff49ea0630f621555bcd9e54777360b8129084ccf68e2f", func := "example.com/branchwork/branchwork/zzlaws_root_b1.FnIsNameMatchesSegmentGrammar", spec := "fnIsNameMatchesSegmentGrammar", apart := false }
def FnIsNameMatchesSegmentGrammarSaid : Prop := fnIsNameMatchesSegmentGrammarRow.holds Try.pinned (OpenSpec.ofChange fnIsNameMatchesSegmentGrammarSpec)

/-- ITS FALSE NEIGHBOUR: 'it returns false'. Refute it at one input. -/
def fnIsNameMatchesSegmentGrammarWrong : ChangeSpec := { name := "fnIsNameMatchesSegmentGrammar", fn := fun _ => fun
  | [d] => { results := [.lit (.bool false)], args := [d] }
  | _ => none }
def FnIsNameMatchesSegmentGrammarWrongFalsely : Prop := fnIsNameMatchesSegmentGrammarRow.holds Try.pinned (OpenSpec.ofChange fnIsNameMatchesSegmentGrammarWrong)

/-- 'zzlaws_root_b1.FnIsShellNameMatchesAlphabetSpec': WHATEVER THE INPUT: true; the input reads as it did. -/
def fnIsShellNameMatchesAlphabetSpecSpec : ChangeSpec := { name := "fnIsShellNameMatchesAlphabetSpec", fn := fun _ => fun
  | [d] => { results := [.lit (.bool true)], args := [d] }
  | _ => none }
def fnIsShellNameMatchesAlphabetSpecRow : OpenClaim := { program := "qxb6603810a", sum := "289dd4dc6d7ca28493ff49ea0630f621555bcd9e54777360b8129084ccf68e2f", func := "example.com/branchwork/branchwork/zzlaws_root_b1.FnIsShellNameMatchesAlphabetSpec", spec := "fnIsShellNameMatchesAlphabetSpec", apart := false }
def FnIsShellNameMatchesAlphabetSpecSaid : Prop := fnIsShellNameMatchesAlphabetSpecRow.holds Try.pinned (OpenSpec.ofChange fnIsShellNameMatchesAlphabetSpecSpec)

/-- ITS FALSE NEIGHBOUR: 'it returns false'. Refute it at one input. -/
def fnIsShellNameMatchesAlphabetSpecWrong : ChangeSpec := { name := "fnIsShellNameMatchesAlphabetSpec", fn := fun _ => fun
  | [d] => { results := [.lit (.bool false)], args := [d] }
  | _ => none }
def FnIsShellNameMatchesAlphabetSpecWrongFalsely : Prop := fnIsShellNameMatchesAlphabetSpecRow.holds Try.pinned (OpenSpec.ofChange fnIsShellNameMatchesAlphabetSpecWrong)

/-- 'zzlaws_root_b1.FnAppendEnvFlagMatchesSpec': WHATEVER THE INPUT: true; the input reads as it did. -/
def fnAppendEnvFlagMatchesSpecSpec : ChangeSpec := { name := "fnAppendEnvFlagMatchesSpec", fn := fun _ => fun
  | [d1, d2, d3] => { results := [.lit (.bool true)], args := [d1, d2, d3] }
  | _ => none }
def fnAppendEnvFlagMatchesSpecRow : OpenClaim := { program := "qxb6603810a", sum := "289dd4dc6d7ca28493ff49ea0630f621555bcd9e54777360b8129084ccf68e2f", func := "example.com/branchwork/branchwork/zzlaws_root_b1.FnAppendEnvFlagMatchesSpec", spec := "fnAppendEnvFlagMatchesSpec", apart := false }
def FnAppendEnvFlagMatchesSpecSaid : Prop := fnAppendEnvFlagMatchesSpecRow.holds Try.pinned (OpenSpec.ofChange fnAppendEnvFlagMatchesSpecSpec)

/-- ITS FALSE NEIGHBOUR: 'it returns false'. Refute it at one input. -/
def fnAppendEnvFlagMatchesSpecWrong : ChangeSpec := { name := "fnAppendEnvFlagMatchesSpec", fn := fun _ => fun
  | [d1, d2, d3] => { results := [.lit (.bool false)], args := [d1, d2, d3] }
  | _ => none }
def FnAppendEnvFlagMatchesSpecWrongFalsely : Prop := fnAppendEnvFlagMatchesSpecRow.holds Try.pinned (OpenSpec.ofChange fnAppendEnvFlagMatchesSpecWrong)

/-- 'zzlaws_root_b1.FnAppendEnvFlagIgnoresWhatBHolds': WHATEVER THE INPUT: true; the input reads as it did. -/
def fnAppendEnvFlagIgnoresWhatBHoldsSpec : ChangeSpec := { name := "fnAppendEnvFlagIgnoresWhatBHolds", fn := fun _ => fun
  | [d1, d2, d3] => { results := [.lit (.bool true)], args := [d1, d2, d3] }
  | _ => none }
def fnAppendEnvFlagIgnoresWhatBHoldsRow : OpenClaim := { program := "qxb6603810a", sum := "289dd4dc6d7ca28493ff49ea0630f621555bcd9e54777360b8129084ccf68e2f", func := "example.com/branchwork/branchwork/zzlaws_root_b1.FnAppendEnvFlagIgnoresWhatBHolds", spec := "fnAppendEnvFlagIgnoresWhatBHolds", apart := false }
def FnAppendEnvFlagIgnoresWhatBHoldsSaid : Prop := fnAppendEnvFlagIgnoresWhatBHoldsRow.holds Try.pinned (OpenSpec.ofChange fnAppendEnvFlagIgnoresWhatBHoldsSpec)

/-- ITS FALSE NEIGHBOUR: 'it returns false'. Refute it at one input. -/
def fnAppendEnvFlagIgnoresWhatBHoldsWrong : ChangeSpec := { name := "fnAppendEnvFlagIgnoresWhatBHolds", fn := fun _ => fun
  | [d1, d2, d3] => { results := [.lit (.bool false)], args := [d1, d2, d3] }
  | _ => none }
def FnAppendEnvFlagIgnoresWhatBHoldsWrongFalsely : Prop := fnAppendEnvFlagIgnoresWhatBHoldsRow.holds Try.pinned (OpenSpec.ofChange fnAppendEnvFlagIgnoresWhatBHoldsWrong)

/-- 'zzlaws_root_b1.FnEnvSpellingOfNameReadsBack': WHATEVER THE INPUT: true; the input reads as it did. -/
def fnEnvSpellingOfNameReadsBackSpec : ChangeSpec := { name := "fnEnvSpellingOfNameReadsBack", fn := fun _ => fun
  | [d1, d2, d3] => { results := [.lit (.bool true)], args := [d1, d2, d3] }
  | _ => none }
def fnEnvSpellingOfNameReadsBackRow : OpenClaim := { program := "qxb6603810a", sum := "289dd4dc6d7ca28493ff49ea0630f621555bcd9e54777360b8129084ccf68e2f", func := "example.com/branchwork/branchwork/zzlaws_root_b1.FnEnvSpellingOfNameReadsBack", spec := "fnEnvSpellingOfNameReadsBack", apart := false }
def FnEnvSpellingOfNameReadsBackSaid : Prop := fnEnvSpellingOfNameReadsBackRow.holds Try.pinned (OpenSpec.ofChange fnEnvSpellingOfNameReadsBackSpec)

/-- ITS FALSE NEIGHBOUR: 'it returns false'. Refute it at one input. -/
def fnEnvSpellingOfNameReadsBackWrong : ChangeSpec := { name := "fnEnvSpellingOfNameReadsBack", fn := fun _ => fun
  | [d1, d2, d3] => { results := [.lit (.bool false)], args := [d1, d2, d3] }
  | _ => none }
def FnEnvSpellingOfNameReadsBackWrongFalsely : Prop := fnEnvSpellingOfNameReadsBackRow.holds Try.pinned (OpenSpec.ofChange fnEnvSpellingOfNameReadsBackWrong)

end Rows
end Go.Proofs.Qxb6603810a
