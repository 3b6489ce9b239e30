/-
  No cell of these rows narrows 'for every input' (looked for: loops, veiled, ifaces, maps, wideKeys, modest, calm, conditions, laid).
  DERIVED. THE GIVEN ROWS OF THIS SEAT. 3 by the template 'for every input the law returns true; each argument reads behind the call as it read before'; 0 by the template 'total and deterministic' (their statements: Qxb6600338aTotals.lean).
  GIVEN WITH THE SEED: the statements are not yours to turn. If you find one false, say at which input.
  Laid BY PROGRAM, IN A SANDBOX (cutbox-rows.mjs): the forced cells as the released guide's own fill.sh prints them over the translation 3a9885cf2a63fb4e… (all of the seat's roots in one cut). By AI agents, Wed Nov 11 2026. No macro, syntax, notation, axiom, sorry.
-/
import Derived.Test.Qxb6600338aChecked
import GoSem.Claim
import GoSem.ClaimJoined
import GoSem.ClaimMapViews
import Derived.JoinedTies
import Derived.KernelRfl
namespace Go.Proofs.Qxb6600338a
/- THE CELL 'sum', in the pinned program and in every row, IS THE sha256 OF THE DUMP (.gsa) THAT Qxb6600338aProg.lean LOADS. Nothing in Lean hashes anything: it is a label: what it is worth is what the hold of that sum in a sandbox is worth. -/
noncomputable def Try.pinned : Pinned := { name := "qxb6600338a", sum := "3a9885cf2a63fb4eb9395622b734f065aec8401fbdb11a8bad8fb94eb032677d", checked := Try.checked }
namespace Rows
def none {H : Type} : Left H := { results := [], args := [] }

/-- 'zzlaws_internal_bencode_b1.FnCanonicalIntSpec': WHATEVER THE INPUT: true; the input reads as it did. -/
def fnCanonicalIntSpecSpec : ChangeSpec := { name := "fnCanonicalIntSpec", fn := fun _ => fun
  | [d] => { results := [.lit (.bool true)], args := [d] }
  | _ => none }
def fnCanonicalIntSpecRow : OpenClaim := { program := "qxb6600338a", sum := "3a9885cf2a63fb4eb9395622b734f065aec8401fbdb11a8bad8fb94eb032677d", func := "example.com/nearfield/nearfield/zzlaws_internal_bencode_b1.FnCanonicalIntSpec", spec := "fnCanonicalIntSpec", apart := false }
def FnCanonicalIntSpecSaid : Prop := fnCanonicalIntSpecRow.holds Try.pinned (OpenSpec.ofChange fnCanonicalIntSpecSpec)

/-- ITS FALSE NEIGHBOUR: 'it returns false'. Refute it at one input. -/
def fnCanonicalIntSpecWrong : ChangeSpec := { name := "fnCanonicalIntSpec", fn := fun _ => fun
  | [d] => { results := [.lit (.bool false)], args := [d] }
  | _ => none }
def FnCanonicalIntSpecWrongFalsely : Prop := fnCanonicalIntSpecRow.holds Try.pinned (OpenSpec.ofChange fnCanonicalIntSpecWrong)

/-- 'zzlaws_internal_bencode_b1.FnCanonicalIntRoundTrip': WHATEVER THE INPUT: true; the input reads as it did. -/
def fnCanonicalIntRoundTripSpec : ChangeSpec := { name := "fnCanonicalIntRoundTrip", fn := fun _ => fun
  | [d] => { results := [.lit (.bool true)], args := [d] }
  | _ => none }
def fnCanonicalIntRoundTripRow : OpenClaim := { program := "qxb6600338a", sum := "3a9885cf2a63fb4eb9395622b734f065aec8401fbdb11a8bad8fb94eb032677d", func := "example.com/nearfield/nearfield/zzlaws_internal_bencode_b1.FnCanonicalIntRoundTrip", spec := "fnCanonicalIntRoundTrip", apart := false }
def FnCanonicalIntRoundTripSaid : Prop := fnCanonicalIntRoundTripRow.holds Try.pinned (OpenSpec.ofChange fnCanonicalIntRoundTripSpec)

/-- ITS FALSE NEIGHBOUR: 'it returns false'. Refute it at one input. -/
def fnCanonicalIntRoundTripWrong : ChangeSpec := { name := "fnCanonicalIntRoundTrip", fn := fun _ => fun
  | [d] => { results := [.lit (.bool false)], args := [d] }
  | _ => none }
def FnCanonicalIntRoundTripWrongFalsely : Prop := fnCanonicalIntRoundTripRow.holds Try.pinned (OpenSpec.ofChange fnCanonicalIntRoundTripWrong)

/-- 'zzlaws_internal_bencode_b1.FnCanonicalIntOneFormPerValue': WHATEVER THE INPUT: true; the input reads as it did. -/
def fnCanonicalIntOneFormPerValueSpec : ChangeSpec := { name := "fnCanonicalIntOneFormPerValue", fn := fun _ => fun
  | [d1, d2] => { results := [.lit (.bool true)], args := [d1, d2] }
  | _ => none }
def fnCanonicalIntOneFormPerValueRow : OpenClaim := { program := "qxb6600338a", sum := "3a9885cf2a63fb4eb9395622b734f065aec8401fbdb11a8bad8fb94eb032677d", func := "example.com/nearfield/nearfield/zzlaws_internal_bencode_b1.FnCanonicalIntOneFormPerValue", spec := "fnCanonicalIntOneFormPerValue", apart := false }
def FnCanonicalIntOneFormPerValueSaid : Prop := fnCanonicalIntOneFormPerValueRow.holds Try.pinned (OpenSpec.ofChange fnCanonicalIntOneFormPerValueSpec)

/-- ITS FALSE NEIGHBOUR: 'it returns false'. Refute it at one input. -/
def fnCanonicalIntOneFormPerValueWrong : ChangeSpec := { name := "fnCanonicalIntOneFormPerValue", fn := fun _ => fun
  | [d1, d2] => { results := [.lit (.bool false)], args := [d1, d2] }
  | _ => none }
def FnCanonicalIntOneFormPerValueWrongFalsely : Prop := fnCanonicalIntOneFormPerValueRow.holds Try.pinned (OpenSpec.ofChange fnCanonicalIntOneFormPerValueWrong)

end Rows
end Go.Proofs.Qxb6600338a
