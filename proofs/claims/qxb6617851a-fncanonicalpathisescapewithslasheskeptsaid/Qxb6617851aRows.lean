/-
  No cell of these rows narrows 'for every input' (looked for: loops, veiled, ifaces, maps, wideKeys, modest, calm, conditions, laid).
  DERIVED. THE GIVEN ROWS OF THIS SEAT. 5 by the template 'for every input the law returns true; each argument reads behind the call as it read before'; 0 by the template 'total and deterministic' (their statements: Qxb6617851aTotals.lean).
  GIVEN WITH THE SEED: the statements are not yours to turn. If you find one false, say at which input.
  Laid BY PROGRAM, IN A SANDBOX (cutbox-rows.mjs): the forced cells as the released guide's own fill.sh prints them over the translation ef7188c5509af72e… (all of the seat's roots in one cut). By AI agents, Wed Nov 11 2026. No macro, syntax, notation, axiom, sorry.
-/
import Derived.Test.Qxb6617851aChecked
import GoSem.Claim
import GoSem.ClaimJoined
import GoSem.ClaimMapViews
import Derived.JoinedTies
import Derived.KernelRfl
namespace Go.Proofs.Qxb6617851a
/- THE CELL 'sum', in the pinned program and in every row, IS THE sha256 OF THE DUMP (.gsa) THAT Qxb6617851aProg.lean LOADS. Nothing in Lean hashes anything: it is a label: what it is worth is what the hold of that sum in a sandbox is worth. -/
noncomputable def Try.pinned : Pinned := { name := "qxb6617851a", sum := "ef7188c5509af72e5e465dfcf2ed51600ce7d8d5b7cddb3320b1f7cf18fc1971", checked := Try.checked }
namespace Rows
def none {H : Type} : Left H := { results := [], args := [] }

/-- 'zzlaws_root_b1.FnIsCredentialPartCutAtAnyPlace': WHATEVER THE INPUT: true; the input reads as it did. -/
def fnIsCredentialPartCutAtAnyPlaceSpec : ChangeSpec := { name := "fnIsCredentialPartCutAtAnyPlace", fn := fun _ => fun
  | [d1, d2] => { results := [.lit (.bool true)], args := [d1, d2] }
  | _ => none }
def fnIsCredentialPartCutAtAnyPlaceRow : OpenClaim := { program := "qxb6617851a", sum := "ef7188c5509af72e5e465dfcf2ed51600ce7d8d5b7cddb3320b1f7cf18fc1971", func := "example.com/lexsign/lexsign/zzlaws_root_b1.FnIsCredentialPartCutAtAnyPlace", spec := "fnIsCredentialPartCutAtAnyPlace", apart := false }
def FnIsCredentialPartCutAtAnyPlaceSaid : Prop := fnIsCredentialPartCutAtAnyPlaceRow.holds Try.pinned (OpenSpec.ofChange fnIsCredentialPartCutAtAnyPlaceSpec)

/-- ITS FALSE NEIGHBOUR: 'it returns false'. Refute it at one input. -/
def fnIsCredentialPartCutAtAnyPlaceWrong : ChangeSpec := { name := "fnIsCredentialPartCutAtAnyPlace", fn := fun _ => fun
  | [d1, d2] => { results := [.lit (.bool false)], args := [d1, d2] }
  | _ => none }
def FnIsCredentialPartCutAtAnyPlaceWrongFalsely : Prop := fnIsCredentialPartCutAtAnyPlaceRow.holds Try.pinned (OpenSpec.ofChange fnIsCredentialPartCutAtAnyPlaceWrong)

/-- 'zzlaws_root_b1.FnCanonicalPathIsCredentialIffNoSlash': WHATEVER THE INPUT: true; the input reads as it did. -/
def fnCanonicalPathIsCredentialIffNoSlashSpec : ChangeSpec := { name := "fnCanonicalPathIsCredentialIffNoSlash", fn := fun _ => fun
  | [d] => { results := [.lit (.bool true)], args := [d] }
  | _ => none }
def fnCanonicalPathIsCredentialIffNoSlashRow : OpenClaim := { program := "qxb6617851a", sum := "ef7188c5509af72e5e465dfcf2ed51600ce7d8d5b7cddb3320b1f7cf18fc1971", func := "example.com/lexsign/lexsign/zzlaws_root_b1.FnCanonicalPathIsCredentialIffNoSlash", spec := "fnCanonicalPathIsCredentialIffNoSlash", apart := false }
def FnCanonicalPathIsCredentialIffNoSlashSaid : Prop := fnCanonicalPathIsCredentialIffNoSlashRow.holds Try.pinned (OpenSpec.ofChange fnCanonicalPathIsCredentialIffNoSlashSpec)

/-- ITS FALSE NEIGHBOUR: 'it returns false'. Refute it at one input. -/
def fnCanonicalPathIsCredentialIffNoSlashWrong : ChangeSpec := { name := "fnCanonicalPathIsCredentialIffNoSlash", fn := fun _ => fun
  | [d] => { results := [.lit (.bool false)], args := [d] }
  | _ => none }
def FnCanonicalPathIsCredentialIffNoSlashWrongFalsely : Prop := fnCanonicalPathIsCredentialIffNoSlashRow.holds Try.pinned (OpenSpec.ofChange fnCanonicalPathIsCredentialIffNoSlashWrong)

/-- 'zzlaws_root_b1.FnHexDigitReadsTheEscapersDigits': WHATEVER THE INPUT: true; the input reads as it did. -/
def fnHexDigitReadsTheEscapersDigitsSpec : ChangeSpec := { name := "fnHexDigitReadsTheEscapersDigits", fn := fun _ => fun
  | [d] => { results := [.lit (.bool true)], args := [d] }
  | _ => none }
def fnHexDigitReadsTheEscapersDigitsRow : OpenClaim := { program := "qxb6617851a", sum := "ef7188c5509af72e5e465dfcf2ed51600ce7d8d5b7cddb3320b1f7cf18fc1971", func := "example.com/lexsign/lexsign/zzlaws_root_b1.FnHexDigitReadsTheEscapersDigits", spec := "fnHexDigitReadsTheEscapersDigits", apart := false }
def FnHexDigitReadsTheEscapersDigitsSaid : Prop := fnHexDigitReadsTheEscapersDigitsRow.holds Try.pinned (OpenSpec.ofChange fnHexDigitReadsTheEscapersDigitsSpec)

/-- ITS FALSE NEIGHBOUR: 'it returns false'. Refute it at one input. -/
def fnHexDigitReadsTheEscapersDigitsWrong : ChangeSpec := { name := "fnHexDigitReadsTheEscapersDigits", fn := fun _ => fun
  | [d] => { results := [.lit (.bool false)], args := [d] }
  | _ => none }
def FnHexDigitReadsTheEscapersDigitsWrongFalsely : Prop := fnHexDigitReadsTheEscapersDigitsRow.holds Try.pinned (OpenSpec.ofChange fnHexDigitReadsTheEscapersDigitsWrong)

/-- 'zzlaws_root_b1.FnHexDigitDecodesWhatEscapeWrote': WHATEVER THE INPUT: true; the input reads as it did. -/
def fnHexDigitDecodesWhatEscapeWroteSpec : ChangeSpec := { name := "fnHexDigitDecodesWhatEscapeWrote", fn := fun _ => fun
  | [d1, d2] => { results := [.lit (.bool true)], args := [d1, d2] }
  | _ => none }
def fnHexDigitDecodesWhatEscapeWroteRow : OpenClaim := { program := "qxb6617851a", sum := "ef7188c5509af72e5e465dfcf2ed51600ce7d8d5b7cddb3320b1f7cf18fc1971", func := "example.com/lexsign/lexsign/zzlaws_root_b1.FnHexDigitDecodesWhatEscapeWrote", spec := "fnHexDigitDecodesWhatEscapeWrote", apart := false }
def FnHexDigitDecodesWhatEscapeWroteSaid : Prop := fnHexDigitDecodesWhatEscapeWroteRow.holds Try.pinned (OpenSpec.ofChange fnHexDigitDecodesWhatEscapeWroteSpec)

/-- ITS FALSE NEIGHBOUR: 'it returns false'. Refute it at one input. -/
def fnHexDigitDecodesWhatEscapeWroteWrong : ChangeSpec := { name := "fnHexDigitDecodesWhatEscapeWrote", fn := fun _ => fun
  | [d1, d2] => { results := [.lit (.bool false)], args := [d1, d2] }
  | _ => none }
def FnHexDigitDecodesWhatEscapeWroteWrongFalsely : Prop := fnHexDigitDecodesWhatEscapeWroteRow.holds Try.pinned (OpenSpec.ofChange fnHexDigitDecodesWhatEscapeWroteWrong)

/-- 'zzlaws_root_b1.FnCanonicalPathIsEscapeWithSlashesKept': WHATEVER THE INPUT: true; the input reads as it did. -/
def fnCanonicalPathIsEscapeWithSlashesKeptSpec : ChangeSpec := { name := "fnCanonicalPathIsEscapeWithSlashesKept", fn := fun _ => fun
  | [d] => { results := [.lit (.bool true)], args := [d] }
  | _ => none }
def fnCanonicalPathIsEscapeWithSlashesKeptRow : OpenClaim := { program := "qxb6617851a", sum := "ef7188c5509af72e5e465dfcf2ed51600ce7d8d5b7cddb3320b1f7cf18fc1971", func := "example.com/lexsign/lexsign/zzlaws_root_b1.FnCanonicalPathIsEscapeWithSlashesKept", spec := "fnCanonicalPathIsEscapeWithSlashesKept", apart := false }
def FnCanonicalPathIsEscapeWithSlashesKeptSaid : Prop := fnCanonicalPathIsEscapeWithSlashesKeptRow.holds Try.pinned (OpenSpec.ofChange fnCanonicalPathIsEscapeWithSlashesKeptSpec)

/-- ITS FALSE NEIGHBOUR: 'it returns false'. Refute it at one input. -/
def fnCanonicalPathIsEscapeWithSlashesKeptWrong : ChangeSpec := { name := "fnCanonicalPathIsEscapeWithSlashesKept", fn := fun _ => fun
  | [d] => { results := [.lit (.bool false)], args := [d] }
  | _ => none }
def FnCanonicalPathIsEscapeWithSlashesKeptWrongFalsely : Prop := fnCanonicalPathIsEscapeWithSlashesKeptRow.holds Try.pinned (OpenSpec.ofChange fnCanonicalPathIsEscapeWithSlashesKeptWrong)

end Rows
end Go.Proofs.Qxb6617851a
