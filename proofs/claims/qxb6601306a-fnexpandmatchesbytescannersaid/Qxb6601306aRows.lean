/-
  No cell of these rows narrows 'for every input' (looked for: loops, veiled, ifaces, maps, wideKeys, modest, calm, conditions, laid).
  DERIVED. THE GIVEN ROWS OF THIS SEAT. 6 by the template 'for every input the law returns true; each argument reads behind the call as it read before'; 0 by the template 'total and deterministic' (their statements: Qxb6601306aTotals.lean).
  GIVEN WITH THE SEED: the statements are not yours to turn. If you find one false, say at which input.
  Laid BY PROGRAM, IN A SANDBOX (cutbox-rows.mjs): the forced cells as the released guide's own fill.sh prints them over the translation b4c6170e1a595d3c… (all of the seat's roots in one cut). By AI agents, Wed Nov 11 2026. No macro, syntax, notation, axiom, sorry.
-/
import Derived.Test.Qxb6601306aChecked
import GoSem.Claim
import GoSem.ClaimJoined
import GoSem.ClaimMapViews
import Derived.JoinedTies
import Derived.KernelRfl
namespace Go.Proofs.Qxb6601306a
/- THE CELL 'sum', in the pinned program and in every row, IS THE sha256 OF THE DUMP (.gsa) THAT Qxb6601306aProg.lean LOADS. Nothing in Lean hashes anything: it is a label: what it is worth is what the hold of that sum in a sandbox is worth. -/
noncomputable def Try.pinned : Pinned := { name := "qxb6601306a", sum := "b4c6170e1a595d3ca61be5611b55c5b0e2155d1a1edc74161983ef610ed6a672", checked := Try.checked }
namespace Rows
def none {H : Type} : Left H := { results := [], args := [] }

/-- 'zzlaws_internal_proxy_b1.FnSpellingIdempotentSameLetters': WHATEVER THE INPUT: true; the input reads as it did. -/
def fnSpellingIdempotentSameLettersSpec : ChangeSpec := { name := "fnSpellingIdempotentSameLetters", fn := fun _ => fun
  | [d] => { results := [.lit (.bool true)], args := [d] }
  | _ => none }
def fnSpellingIdempotentSameLettersRow : OpenClaim := { program := "qxb6601306a", sum := "b4c6170e1a595d3ca61be5611b55c5b0e2155d1a1edc74161983ef610ed6a672", func := "example.com/relaybridge/relaybridge/zzlaws_internal_proxy_b1.FnSpellingIdempotentSameLetters", spec := "fnSpellingIdempotentSameLetters", apart := false }
def FnSpellingIdempotentSameLettersSaid : Prop := fnSpellingIdempotentSameLettersRow.holds Try.pinned (OpenSpec.ofChange fnSpellingIdempotentSameLettersSpec)

/-- ITS FALSE NEIGHBOUR: 'it returns false'. Refute it at one input. -/
def fnSpellingIdempotentSameLettersWrong : ChangeSpec := { name := "fnSpellingIdempotentSameLetters", fn := fun _ => fun
  | [d] => { results := [.lit (.bool false)], args := [d] }
  | _ => none }
def FnSpellingIdempotentSameLettersWrongFalsely : Prop := fnSpellingIdempotentSameLettersRow.holds Try.pinned (OpenSpec.ofChange fnSpellingIdempotentSameLettersWrong)

/-- 'zzlaws_internal_proxy_b1.FnRedirectLocationPlainJoin': WHATEVER THE INPUT: true; the input reads as it did. -/
def fnRedirectLocationPlainJoinSpec : ChangeSpec := { name := "fnRedirectLocationPlainJoin", fn := fun _ => fun
  | [d1, d2] => { results := [.lit (.bool true)], args := [d1, d2] }
  | _ => none }
def fnRedirectLocationPlainJoinRow : OpenClaim := { program := "qxb6601306a", sum := "b4c6170e1a595d3ca61be5611b55c5b0e2155d1a1edc74161983ef610ed6a672", func := "example.com/relaybridge/relaybridge/zzlaws_internal_proxy_b1.FnRedirectLocationPlainJoin", spec := "fnRedirectLocationPlainJoin", inPlace := ["internal/bytealg.IndexByteString", "internal/bytealg.IndexString"], named := ["internal/bytealg.MaxLen"], apart := false }
def FnRedirectLocationPlainJoinSaid : Prop := fnRedirectLocationPlainJoinRow.holds Try.pinned (OpenSpec.ofChange fnRedirectLocationPlainJoinSpec)

/-- ITS FALSE NEIGHBOUR: 'it returns false'. Refute it at one input. -/
def fnRedirectLocationPlainJoinWrong : ChangeSpec := { name := "fnRedirectLocationPlainJoin", fn := fun _ => fun
  | [d1, d2] => { results := [.lit (.bool false)], args := [d1, d2] }
  | _ => none }
def FnRedirectLocationPlainJoinWrongFalsely : Prop := fnRedirectLocationPlainJoinRow.holds Try.pinned (OpenSpec.ofChange fnRedirectLocationPlainJoinWrong)

/-- 'zzlaws_internal_proxy_b1.FnRedirectLocationFragmentLast': WHATEVER THE INPUT: true; the input reads as it did. -/
def fnRedirectLocationFragmentLastSpec : ChangeSpec := { name := "fnRedirectLocationFragmentLast", fn := fun _ => fun
  | [d1, d2, d3, d4] => { results := [.lit (.bool true)], args := [d1, d2, d3, d4] }
  | _ => none }
def fnRedirectLocationFragmentLastRow : OpenClaim := { program := "qxb6601306a", sum := "b4c6170e1a595d3ca61be5611b55c5b0e2155d1a1edc74161983ef610ed6a672", func := "example.com/relaybridge/relaybridge/zzlaws_internal_proxy_b1.FnRedirectLocationFragmentLast", spec := "fnRedirectLocationFragmentLast", inPlace := ["internal/bytealg.IndexByteString", "internal/bytealg.IndexString"], named := ["internal/bytealg.MaxLen"], apart := false }
def FnRedirectLocationFragmentLastSaid : Prop := fnRedirectLocationFragmentLastRow.holds Try.pinned (OpenSpec.ofChange fnRedirectLocationFragmentLastSpec)

/-- ITS FALSE NEIGHBOUR: 'it returns false'. Refute it at one input. -/
def fnRedirectLocationFragmentLastWrong : ChangeSpec := { name := "fnRedirectLocationFragmentLast", fn := fun _ => fun
  | [d1, d2, d3, d4] => { results := [.lit (.bool false)], args := [d1, d2, d3, d4] }
  | _ => none }
def FnRedirectLocationFragmentLastWrongFalsely : Prop := fnRedirectLocationFragmentLastRow.holds Try.pinned (OpenSpec.ofChange fnRedirectLocationFragmentLastWrong)

/-- 'zzlaws_internal_proxy_b1.FnRedirectLocationQueryAndFront': WHATEVER THE INPUT: true; the input reads as it did. -/
def fnRedirectLocationQueryAndFrontSpec : ChangeSpec := { name := "fnRedirectLocationQueryAndFront", fn := fun _ => fun
  | [d1, d2, d3, d4] => { results := [.lit (.bool true)], args := [d1, d2, d3, d4] }
  | _ => none }
def fnRedirectLocationQueryAndFrontRow : OpenClaim := { program := "qxb6601306a", sum := "b4c6170e1a595d3ca61be5611b55c5b0e2155d1a1edc74161983ef610ed6a672", func := "example.com/relaybridge/relaybridge/zzlaws_internal_proxy_b1.FnRedirectLocationQueryAndFront", spec := "fnRedirectLocationQueryAndFront", inPlace := ["internal/bytealg.IndexByteString", "internal/bytealg.IndexString"], named := ["internal/bytealg.MaxLen"], apart := false }
def FnRedirectLocationQueryAndFrontSaid : Prop := fnRedirectLocationQueryAndFrontRow.holds Try.pinned (OpenSpec.ofChange fnRedirectLocationQueryAndFrontSpec)

/-- ITS FALSE NEIGHBOUR: 'it returns false'. Refute it at one input. -/
def fnRedirectLocationQueryAndFrontWrong : ChangeSpec := { name := "fnRedirectLocationQueryAndFront", fn := fun _ => fun
  | [d1, d2, d3, d4] => { results := [.lit (.bool false)], args := [d1, d2, d3, d4] }
  | _ => none }
def FnRedirectLocationQueryAndFrontWrongFalsely : Prop := fnRedirectLocationQueryAndFrontRow.holds Try.pinned (OpenSpec.ofChange fnRedirectLocationQueryAndFrontWrong)

/-- 'zzlaws_internal_proxy_b1.FnExpandMatchesByteScanner': WHATEVER THE INPUT: true; the input reads as it did. -/
def fnExpandMatchesByteScannerSpec : ChangeSpec := { name := "fnExpandMatchesByteScanner", fn := fun _ => fun
  | [d1, d2, d3] => { results := [.lit (.bool true)], args := [d1, d2, d3] }
  | _ => none }
def fnExpandMatchesByteScannerRow : OpenClaim := { program := "qxb6601306a", sum := "b4c6170e1a595d3ca61be5611b55c5b0e2155d1a1edc74161983ef610ed6a672", func := "example.com/relaybridge/relaybridge/zzlaws_internal_proxy_b1.FnExpandMatchesByteScanner", spec := "fnExpandMatchesByteScanner", inPlace := ["internal/abi.NoEscape"], apart := false }
def FnExpandMatchesByteScannerSaid : Prop := fnExpandMatchesByteScannerRow.holds Try.pinned (OpenSpec.ofChange fnExpandMatchesByteScannerSpec)

/-- ITS FALSE NEIGHBOUR: 'it returns false'. Refute it at one input. -/
def fnExpandMatchesByteScannerWrong : ChangeSpec := { name := "fnExpandMatchesByteScanner", fn := fun _ => fun
  | [d1, d2, d3] => { results := [.lit (.bool false)], args := [d1, d2, d3] }
  | _ => none }
def FnExpandMatchesByteScannerWrongFalsely : Prop := fnExpandMatchesByteScannerRow.holds Try.pinned (OpenSpec.ofChange fnExpandMatchesByteScannerWrong)

/-- 'zzlaws_internal_proxy_b1.FnExpandSplitsAtSeam': WHATEVER THE INPUT: true; the input reads as it did. -/
def fnExpandSplitsAtSeamSpec : ChangeSpec := { name := "fnExpandSplitsAtSeam", fn := fun _ => fun
  | [d1, d2, d3, d4] => { results := [.lit (.bool true)], args := [d1, d2, d3, d4] }
  | _ => none }
def fnExpandSplitsAtSeamRow : OpenClaim := { program := "qxb6601306a", sum := "b4c6170e1a595d3ca61be5611b55c5b0e2155d1a1edc74161983ef610ed6a672", func := "example.com/relaybridge/relaybridge/zzlaws_internal_proxy_b1.FnExpandSplitsAtSeam", spec := "fnExpandSplitsAtSeam", inPlace := ["internal/abi.NoEscape"], apart := false }
def FnExpandSplitsAtSeamSaid : Prop := fnExpandSplitsAtSeamRow.holds Try.pinned (OpenSpec.ofChange fnExpandSplitsAtSeamSpec)

/-- ITS FALSE NEIGHBOUR: 'it returns false'. Refute it at one input. -/
def fnExpandSplitsAtSeamWrong : ChangeSpec := { name := "fnExpandSplitsAtSeam", fn := fun _ => fun
  | [d1, d2, d3, d4] => { results := [.lit (.bool false)], args := [d1, d2, d3, d4] }
  | _ => none }
def FnExpandSplitsAtSeamWrongFalsely : Prop := fnExpandSplitsAtSeamRow.holds Try.pinned (OpenSpec.ofChange fnExpandSplitsAtSeamWrong)

end Rows
end Go.Proofs.Qxb6601306a
