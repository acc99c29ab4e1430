/-
  No cell of these rows narrows 'for every input' (looked for: loops, veiled, ifaces, maps, wideKeys, modest, calm, conditions, laid).
  DERIVED. THE GIVEN ROWS OF THIS SEAT. 5 by the template 'for every input the law returns true; each argument reads behind the call as it read before'; 0 by the template 'total and deterministic' (their statements: Qxb6605459aTotals.lean).
  GIVEN WITH THE SEED: the statements are not yours to turn. If you find one false, say at which input.
  Laid BY PROGRAM, IN A SANDBOX (cutbox-rows.mjs): the forced cells as the released guide's own fill.sh prints them over the translation 33e7a6c09a006a3c… (all of the seat's roots in one cut). By AI agents, Wed Nov 11 2026. No macro, syntax, notation, axiom, sorry.
-/
import Derived.Test.Qxb6605459aChecked
import GoSem.Claim
import GoSem.ClaimJoined
import GoSem.ClaimMapViews
import Derived.JoinedTies
import Derived.KernelRfl
namespace Go.Proofs.Qxb6605459a
/- THE CELL 'sum', in the pinned program and in every row, IS THE sha256 OF THE DUMP (.gsa) THAT Qxb6605459aProg.lean LOADS. Nothing in Lean hashes anything: it is a label: what it is worth is what the hold of that sum in a sandbox is worth. -/
noncomputable def Try.pinned : Pinned := { name := "qxb6605459a", sum := "33e7a6c09a006a3c19d8bb689e8816bc5f6e807e7a6cea453bec8ea3e0c31a24", checked := Try.checked }
namespace Rows
def none {H : Type} : Left H := { results := [], args := [] }

/-- 'zzlaws_root_b1.FnBase64URLDigitMatchesAlphabet': WHATEVER THE INPUT: true; the input reads as it did. -/
def fnBase64URLDigitMatchesAlphabetSpec : ChangeSpec := { name := "fnBase64URLDigitMatchesAlphabet", fn := fun _ => fun
  | [d] => { results := [.lit (.bool true)], args := [d] }
  | _ => none }
def fnBase64URLDigitMatchesAlphabetRow : OpenClaim := { program := "qxb6605459a", sum := "33e7a6c09a006a3c19d8bb689e8816bc5f6e807e7a6cea453bec8ea3e0c31a24", func := "example.com/claviger/claviger/zzlaws_root_b1.FnBase64URLDigitMatchesAlphabet", spec := "fnBase64URLDigitMatchesAlphabet", apart := false }
def FnBase64URLDigitMatchesAlphabetSaid : Prop := fnBase64URLDigitMatchesAlphabetRow.holds Try.pinned (OpenSpec.ofChange fnBase64URLDigitMatchesAlphabetSpec)

/-- ITS FALSE NEIGHBOUR: 'it returns false'. Refute it at one input. -/
def fnBase64URLDigitMatchesAlphabetWrong : ChangeSpec := { name := "fnBase64URLDigitMatchesAlphabet", fn := fun _ => fun
  | [d] => { results := [.lit (.bool false)], args := [d] }
  | _ => none }
def FnBase64URLDigitMatchesAlphabetWrongFalsely : Prop := fnBase64URLDigitMatchesAlphabetRow.holds Try.pinned (OpenSpec.ofChange fnBase64URLDigitMatchesAlphabetWrong)

/-- 'zzlaws_root_b1.FnIsBase64URLExactlyCanonicalSpellings': WHATEVER THE INPUT: true; the input reads as it did. -/
def fnIsBase64URLExactlyCanonicalSpellingsSpec : ChangeSpec := { name := "fnIsBase64URLExactlyCanonicalSpellings", fn := fun _ => fun
  | [d] => { results := [.lit (.bool true)], args := [d] }
  | _ => none }
def fnIsBase64URLExactlyCanonicalSpellingsRow : OpenClaim := { program := "qxb6605459a", sum := "33e7a6c09a006a3c19d8bb689e8816bc5f6e807e7a6cea453bec8ea3e0c31a24", func := "example.com/claviger/claviger/zzlaws_root_b1.FnIsBase64URLExactlyCanonicalSpellings", spec := "fnIsBase64URLExactlyCanonicalSpellings", apart := false }
def FnIsBase64URLExactlyCanonicalSpellingsSaid : Prop := fnIsBase64URLExactlyCanonicalSpellingsRow.holds Try.pinned (OpenSpec.ofChange fnIsBase64URLExactlyCanonicalSpellingsSpec)

/-- ITS FALSE NEIGHBOUR: 'it returns false'. Refute it at one input. -/
def fnIsBase64URLExactlyCanonicalSpellingsWrong : ChangeSpec := { name := "fnIsBase64URLExactlyCanonicalSpellings", fn := fun _ => fun
  | [d] => { results := [.lit (.bool false)], args := [d] }
  | _ => none }
def FnIsBase64URLExactlyCanonicalSpellingsWrongFalsely : Prop := fnIsBase64URLExactlyCanonicalSpellingsRow.holds Try.pinned (OpenSpec.ofChange fnIsBase64URLExactlyCanonicalSpellingsWrong)

/-- 'zzlaws_root_b1.FnIsBase64URLAcceptsEveryEncodingAndRefusesExtras': WHATEVER THE INPUT: true; the input reads as it did. -/
def fnIsBase64URLAcceptsEveryEncodingAndRefusesExtrasSpec : ChangeSpec := { name := "fnIsBase64URLAcceptsEveryEncodingAndRefusesExtras", fn := fun _ => fun
  | [d] => { results := [.lit (.bool true)], args := [d] }
  | _ => none }
def fnIsBase64URLAcceptsEveryEncodingAndRefusesExtrasRow : OpenClaim := { program := "qxb6605459a", sum := "33e7a6c09a006a3c19d8bb689e8816bc5f6e807e7a6cea453bec8ea3e0c31a24", func := "example.com/claviger/claviger/zzlaws_root_b1.FnIsBase64URLAcceptsEveryEncodingAndRefusesExtras", spec := "fnIsBase64URLAcceptsEveryEncodingAndRefusesExtras", apart := false }
def FnIsBase64URLAcceptsEveryEncodingAndRefusesExtrasSaid : Prop := fnIsBase64URLAcceptsEveryEncodingAndRefusesExtrasRow.holds Try.pinned (OpenSpec.ofChange fnIsBase64URLAcceptsEveryEncodingAndRefusesExtrasSpec)

/-- ITS FALSE NEIGHBOUR: 'it returns false'. Refute it at one input. -/
def fnIsBase64URLAcceptsEveryEncodingAndRefusesExtrasWrong : ChangeSpec := { name := "fnIsBase64URLAcceptsEveryEncodingAndRefusesExtras", fn := fun _ => fun
  | [d] => { results := [.lit (.bool false)], args := [d] }
  | _ => none }
def FnIsBase64URLAcceptsEveryEncodingAndRefusesExtrasWrongFalsely : Prop := fnIsBase64URLAcceptsEveryEncodingAndRefusesExtrasRow.holds Try.pinned (OpenSpec.ofChange fnIsBase64URLAcceptsEveryEncodingAndRefusesExtrasWrong)

/-- 'zzlaws_root_b1.FnKnownValuesExactSpec': WHATEVER THE INPUT: true; the input reads as it did. -/
def fnKnownValuesExactSpecSpec : ChangeSpec := { name := "fnKnownValuesExactSpec", fn := fun _ => fun
  | [d1, d2] => { results := [.lit (.bool true)], args := [d1, d2] }
  | _ => none }
def fnKnownValuesExactSpecRow : OpenClaim := { program := "qxb6605459a", sum := "33e7a6c09a006a3c19d8bb689e8816bc5f6e807e7a6cea453bec8ea3e0c31a24", func := "example.com/claviger/claviger/zzlaws_root_b1.FnKnownValuesExactSpec", spec := "fnKnownValuesExactSpec", apart := false }
def FnKnownValuesExactSpecSaid : Prop := fnKnownValuesExactSpecRow.holds Try.pinned (OpenSpec.ofChange fnKnownValuesExactSpecSpec)

/-- ITS FALSE NEIGHBOUR: 'it returns false'. Refute it at one input. -/
def fnKnownValuesExactSpecWrong : ChangeSpec := { name := "fnKnownValuesExactSpec", fn := fun _ => fun
  | [d1, d2] => { results := [.lit (.bool false)], args := [d1, d2] }
  | _ => none }
def FnKnownValuesExactSpecWrongFalsely : Prop := fnKnownValuesExactSpecRow.holds Try.pinned (OpenSpec.ofChange fnKnownValuesExactSpecWrong)

/-- 'zzlaws_root_b1.FnKnownValuesStableAndBounded': WHATEVER THE INPUT: true; the input reads as it did. -/
def fnKnownValuesStableAndBoundedSpec : ChangeSpec := { name := "fnKnownValuesStableAndBounded", fn := fun _ => fun
  | [d1, d2] => { results := [.lit (.bool true)], args := [d1, d2] }
  | _ => none }
def fnKnownValuesStableAndBoundedRow : OpenClaim := { program := "qxb6605459a", sum := "33e7a6c09a006a3c19d8bb689e8816bc5f6e807e7a6cea453bec8ea3e0c31a24", func := "example.com/claviger/claviger/zzlaws_root_b1.FnKnownValuesStableAndBounded", spec := "fnKnownValuesStableAndBounded", apart := false }
def FnKnownValuesStableAndBoundedSaid : Prop := fnKnownValuesStableAndBoundedRow.holds Try.pinned (OpenSpec.ofChange fnKnownValuesStableAndBoundedSpec)

/-- ITS FALSE NEIGHBOUR: 'it returns false'. Refute it at one input. -/
def fnKnownValuesStableAndBoundedWrong : ChangeSpec := { name := "fnKnownValuesStableAndBounded", fn := fun _ => fun
  | [d1, d2] => { results := [.lit (.bool false)], args := [d1, d2] }
  | _ => none }
def FnKnownValuesStableAndBoundedWrongFalsely : Prop := fnKnownValuesStableAndBoundedRow.holds Try.pinned (OpenSpec.ofChange fnKnownValuesStableAndBoundedWrong)

end Rows
end Go.Proofs.Qxb6605459a
