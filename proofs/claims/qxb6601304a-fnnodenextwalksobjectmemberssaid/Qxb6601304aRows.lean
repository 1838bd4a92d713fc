/-
  No cell of these rows narrows 'for every input' (looked for: loops, veiled, ifaces, maps, wideKeys, modest, calm, conditions, laid).
  DERIVED. THE GIVEN ROWS OF THIS SEAT. 5 by the template 'for every input the law returns true; each argument reads behind the call as it read before'; 0 by the template 'total and deterministic' (their statements: Qxb6601304aTotals.lean).
  GIVEN WITH THE SEED: the statements are not yours to turn. If you find one false, say at which input.
  Laid BY PROGRAM, IN A SANDBOX (cutbox-rows.mjs): the forced cells as the released guide's own fill.sh prints them over the translation 0da2f07e61c494ed… (all of the seat's roots in one cut). By AI agents, Wed Nov 11 2026. No macro, syntax, notation, axiom, sorry.
-/
import Derived.Test.Qxb6601304aChecked
import GoSem.Claim
import GoSem.ClaimJoined
import GoSem.ClaimMapViews
import Derived.JoinedTies
import Derived.KernelRfl
namespace Go.Proofs.Qxb6601304a
/- THE CELL 'sum', in the pinned program and in every row, IS THE sha256 OF THE DUMP (.gsa) THAT Qxb6601304aProg.lean LOADS. Nothing in Lean hashes anything: it is a label: what it is worth is what the hold of that sum in a sandbox is worth. -/
noncomputable def Try.pinned : Pinned := { name := "qxb6601304a", sum := "0da2f07e61c494edc2a46a2e78f94b904eb69adef0fdd98cfc0b0f69e7a3ff76", checked := Try.checked }
namespace Rows
def none {H : Type} : Left H := { results := [], args := [] }

/-- 'zzlaws_apiserver_b1.FnNumberEndMatchesAutomaton': WHATEVER THE INPUT: true; the input reads as it did. -/
def fnNumberEndMatchesAutomatonSpec : ChangeSpec := { name := "fnNumberEndMatchesAutomaton", fn := fun _ => fun
  | [d1, d2] => { results := [.lit (.bool true)], args := [d1, d2] }
  | _ => none }
def fnNumberEndMatchesAutomatonRow : OpenClaim := { program := "qxb6601304a", sum := "0da2f07e61c494edc2a46a2e78f94b904eb69adef0fdd98cfc0b0f69e7a3ff76", func := "example.com/tidewatch/tidewatch/zzlaws_apiserver_b1.FnNumberEndMatchesAutomaton", spec := "fnNumberEndMatchesAutomaton", apart := false }
def FnNumberEndMatchesAutomatonSaid : Prop := fnNumberEndMatchesAutomatonRow.holds Try.pinned (OpenSpec.ofChange fnNumberEndMatchesAutomatonSpec)

/-- ITS FALSE NEIGHBOUR: 'it returns false'. Refute it at one input. -/
def fnNumberEndMatchesAutomatonWrong : ChangeSpec := { name := "fnNumberEndMatchesAutomaton", fn := fun _ => fun
  | [d1, d2] => { results := [.lit (.bool false)], args := [d1, d2] }
  | _ => none }
def FnNumberEndMatchesAutomatonWrongFalsely : Prop := fnNumberEndMatchesAutomatonRow.holds Try.pinned (OpenSpec.ofChange fnNumberEndMatchesAutomatonWrong)

/-- 'zzlaws_apiserver_b1.FnNumberEndIsSelfDelimiting': WHATEVER THE INPUT: true; the input reads as it did. -/
def fnNumberEndIsSelfDelimitingSpec : ChangeSpec := { name := "fnNumberEndIsSelfDelimiting", fn := fun _ => fun
  | [d1, d2] => { results := [.lit (.bool true)], args := [d1, d2] }
  | _ => none }
def fnNumberEndIsSelfDelimitingRow : OpenClaim := { program := "qxb6601304a", sum := "0da2f07e61c494edc2a46a2e78f94b904eb69adef0fdd98cfc0b0f69e7a3ff76", func := "example.com/tidewatch/tidewatch/zzlaws_apiserver_b1.FnNumberEndIsSelfDelimiting", spec := "fnNumberEndIsSelfDelimiting", apart := false }
def FnNumberEndIsSelfDelimitingSaid : Prop := fnNumberEndIsSelfDelimitingRow.holds Try.pinned (OpenSpec.ofChange fnNumberEndIsSelfDelimitingSpec)

/-- ITS FALSE NEIGHBOUR: 'it returns false'. Refute it at one input. -/
def fnNumberEndIsSelfDelimitingWrong : ChangeSpec := { name := "fnNumberEndIsSelfDelimiting", fn := fun _ => fun
  | [d1, d2] => { results := [.lit (.bool false)], args := [d1, d2] }
  | _ => none }
def FnNumberEndIsSelfDelimitingWrongFalsely : Prop := fnNumberEndIsSelfDelimitingRow.holds Try.pinned (OpenSpec.ofChange fnNumberEndIsSelfDelimitingWrong)

/-- 'zzlaws_apiserver_b1.FnTokenEndMatchesParser': WHATEVER THE INPUT: true; the input reads as it did. -/
def fnTokenEndMatchesParserSpec : ChangeSpec := { name := "fnTokenEndMatchesParser", fn := fun _ => fun
  | [d1, d2] => { results := [.lit (.bool true)], args := [d1, d2] }
  | _ => none }
def fnTokenEndMatchesParserRow : OpenClaim := { program := "qxb6601304a", sum := "0da2f07e61c494edc2a46a2e78f94b904eb69adef0fdd98cfc0b0f69e7a3ff76", func := "example.com/tidewatch/tidewatch/zzlaws_apiserver_b1.FnTokenEndMatchesParser", spec := "fnTokenEndMatchesParser", recurses := true, apart := false }
def FnTokenEndMatchesParserSaid : Prop := fnTokenEndMatchesParserRow.holds Try.pinned (OpenSpec.ofChange fnTokenEndMatchesParserSpec)

/-- ITS FALSE NEIGHBOUR: 'it returns false'. Refute it at one input. -/
def fnTokenEndMatchesParserWrong : ChangeSpec := { name := "fnTokenEndMatchesParser", fn := fun _ => fun
  | [d1, d2] => { results := [.lit (.bool false)], args := [d1, d2] }
  | _ => none }
def FnTokenEndMatchesParserWrongFalsely : Prop := fnTokenEndMatchesParserRow.holds Try.pinned (OpenSpec.ofChange fnTokenEndMatchesParserWrong)

/-- 'zzlaws_apiserver_b1.FnNodeNextWalksObjectMembers': WHATEVER THE INPUT: true; the input reads as it did. -/
def fnNodeNextWalksObjectMembersSpec : ChangeSpec := { name := "fnNodeNextWalksObjectMembers", fn := fun _ => fun
  | [d1, d2, d3] => { results := [.lit (.bool true)], args := [d1, d2, d3] }
  | _ => none }
def fnNodeNextWalksObjectMembersRow : OpenClaim := { program := "qxb6601304a", sum := "0da2f07e61c494edc2a46a2e78f94b904eb69adef0fdd98cfc0b0f69e7a3ff76", func := "example.com/tidewatch/tidewatch/zzlaws_apiserver_b1.FnNodeNextWalksObjectMembers", spec := "fnNodeNextWalksObjectMembers", apart := false }
def FnNodeNextWalksObjectMembersSaid : Prop := fnNodeNextWalksObjectMembersRow.holds Try.pinned (OpenSpec.ofChange fnNodeNextWalksObjectMembersSpec)

/-- ITS FALSE NEIGHBOUR: 'it returns false'. Refute it at one input. -/
def fnNodeNextWalksObjectMembersWrong : ChangeSpec := { name := "fnNodeNextWalksObjectMembers", fn := fun _ => fun
  | [d1, d2, d3] => { results := [.lit (.bool false)], args := [d1, d2, d3] }
  | _ => none }
def FnNodeNextWalksObjectMembersWrongFalsely : Prop := fnNodeNextWalksObjectMembersRow.holds Try.pinned (OpenSpec.ofChange fnNodeNextWalksObjectMembersWrong)

/-- 'zzlaws_apiserver_b1.FnNodeNextWalksArrayElements': WHATEVER THE INPUT: true; the input reads as it did. -/
def fnNodeNextWalksArrayElementsSpec : ChangeSpec := { name := "fnNodeNextWalksArrayElements", fn := fun _ => fun
  | [d1, d2, d3] => { results := [.lit (.bool true)], args := [d1, d2, d3] }
  | _ => none }
def fnNodeNextWalksArrayElementsRow : OpenClaim := { program := "qxb6601304a", sum := "0da2f07e61c494edc2a46a2e78f94b904eb69adef0fdd98cfc0b0f69e7a3ff76", func := "example.com/tidewatch/tidewatch/zzlaws_apiserver_b1.FnNodeNextWalksArrayElements", spec := "fnNodeNextWalksArrayElements", apart := false }
def FnNodeNextWalksArrayElementsSaid : Prop := fnNodeNextWalksArrayElementsRow.holds Try.pinned (OpenSpec.ofChange fnNodeNextWalksArrayElementsSpec)

/-- ITS FALSE NEIGHBOUR: 'it returns false'. Refute it at one input. -/
def fnNodeNextWalksArrayElementsWrong : ChangeSpec := { name := "fnNodeNextWalksArrayElements", fn := fun _ => fun
  | [d1, d2, d3] => { results := [.lit (.bool false)], args := [d1, d2, d3] }
  | _ => none }
def FnNodeNextWalksArrayElementsWrongFalsely : Prop := fnNodeNextWalksArrayElementsRow.holds Try.pinned (OpenSpec.ofChange fnNodeNextWalksArrayElementsWrong)

end Rows
end Go.Proofs.Qxb6601304a
