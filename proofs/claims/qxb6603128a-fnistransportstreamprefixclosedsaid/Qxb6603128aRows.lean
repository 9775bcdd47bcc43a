/-
  No cell of these rows narrows 'for every input' (looked for: loops, veiled, ifaces, maps, wideKeys, modest, calm, conditions, laid).
  DERIVED. THE GIVEN ROWS OF THIS SEAT. 5 by the template 'for every input the law returns true; each argument reads behind the call as it read before'; 0 by the template 'total and deterministic' (their statements: Qxb6603128aTotals.lean).
  GIVEN WITH THE SEED: the statements are not yours to turn. If you find one false, say at which input.
  Laid BY PROGRAM, IN A SANDBOX (cutbox-rows.mjs): the forced cells as the released guide's own fill.sh prints them over the translation f859eb8c1623b619… (all of the seat's roots in one cut). By AI agents, Wed Nov 11 2026. No macro, syntax, notation, axiom, sorry.
-/
import Derived.Test.Qxb6603128aChecked
import GoSem.Claim
import GoSem.ClaimJoined
import GoSem.ClaimMapViews
import Derived.JoinedTies
import Derived.KernelRfl
namespace Go.Proofs.Qxb6603128a
/- THE CELL 'sum', in the pinned program and in every row, IS THE sha256 OF THE DUMP (.gsa) THAT Qxb6603128aProg.lean LOADS. Nothing in Lean hashes anything: it is a label: what it is worth is what the hold of that sum in a sandbox is worth. -/
noncomputable def Try.pinned : Pinned := { name := "qxb6603128a", sum := "f859eb8c1623b619dc741442f399884d961c661f0cbeb9ae220211b48c4705b0", checked := Try.checked }
namespace Rows
def none {H : Type} : Left H := { results := [], args := [] }

/-- 'zzlaws_internal_mediatype_b1.FnIsPlaylistMatchesFirstLineModel': WHATEVER THE INPUT: true; the input reads as it did. -/
def fnIsPlaylistMatchesFirstLineModelSpec : ChangeSpec := { name := "fnIsPlaylistMatchesFirstLineModel", fn := fun _ => fun
  | [d] => { results := [.lit (.bool true)], args := [d] }
  | _ => none }
def fnIsPlaylistMatchesFirstLineModelRow : OpenClaim := { program := "qxb6603128a", sum := "f859eb8c1623b619dc741442f399884d961c661f0cbeb9ae220211b48c4705b0", func := "example.com/sumvault/sumvault/zzlaws_internal_mediatype_b1.FnIsPlaylistMatchesFirstLineModel", spec := "fnIsPlaylistMatchesFirstLineModel", apart := false }
def FnIsPlaylistMatchesFirstLineModelSaid : Prop := fnIsPlaylistMatchesFirstLineModelRow.holds Try.pinned (OpenSpec.ofChange fnIsPlaylistMatchesFirstLineModelSpec)

/-- ITS FALSE NEIGHBOUR: 'it returns false'. Refute it at one input. -/
def fnIsPlaylistMatchesFirstLineModelWrong : ChangeSpec := { name := "fnIsPlaylistMatchesFirstLineModel", fn := fun _ => fun
  | [d] => { results := [.lit (.bool false)], args := [d] }
  | _ => none }
def FnIsPlaylistMatchesFirstLineModelWrongFalsely : Prop := fnIsPlaylistMatchesFirstLineModelRow.holds Try.pinned (OpenSpec.ofChange fnIsPlaylistMatchesFirstLineModelWrong)

/-- 'zzlaws_internal_mediatype_b1.FnIsPlaylistDependsOnFirstNineBytes': WHATEVER THE INPUT: true; the input reads as it did. -/
def fnIsPlaylistDependsOnFirstNineBytesSpec : ChangeSpec := { name := "fnIsPlaylistDependsOnFirstNineBytes", fn := fun _ => fun
  | [d1, d2] => { results := [.lit (.bool true)], args := [d1, d2] }
  | _ => none }
def fnIsPlaylistDependsOnFirstNineBytesRow : OpenClaim := { program := "qxb6603128a", sum := "f859eb8c1623b619dc741442f399884d961c661f0cbeb9ae220211b48c4705b0", func := "example.com/sumvault/sumvault/zzlaws_internal_mediatype_b1.FnIsPlaylistDependsOnFirstNineBytes", spec := "fnIsPlaylistDependsOnFirstNineBytes", apart := false }
def FnIsPlaylistDependsOnFirstNineBytesSaid : Prop := fnIsPlaylistDependsOnFirstNineBytesRow.holds Try.pinned (OpenSpec.ofChange fnIsPlaylistDependsOnFirstNineBytesSpec)

/-- ITS FALSE NEIGHBOUR: 'it returns false'. Refute it at one input. -/
def fnIsPlaylistDependsOnFirstNineBytesWrong : ChangeSpec := { name := "fnIsPlaylistDependsOnFirstNineBytes", fn := fun _ => fun
  | [d1, d2] => { results := [.lit (.bool false)], args := [d1, d2] }
  | _ => none }
def FnIsPlaylistDependsOnFirstNineBytesWrongFalsely : Prop := fnIsPlaylistDependsOnFirstNineBytesRow.holds Try.pinned (OpenSpec.ofChange fnIsPlaylistDependsOnFirstNineBytesWrong)

/-- 'zzlaws_internal_mediatype_b1.FnIsTransportStreamMatchesSyncModel': WHATEVER THE INPUT: true; the input reads as it did. -/
def fnIsTransportStreamMatchesSyncModelSpec : ChangeSpec := { name := "fnIsTransportStreamMatchesSyncModel", fn := fun _ => fun
  | [d] => { results := [.lit (.bool true)], args := [d] }
  | _ => none }
def fnIsTransportStreamMatchesSyncModelRow : OpenClaim := { program := "qxb6603128a", sum := "f859eb8c1623b619dc741442f399884d961c661f0cbeb9ae220211b48c4705b0", func := "example.com/sumvault/sumvault/zzlaws_internal_mediatype_b1.FnIsTransportStreamMatchesSyncModel", spec := "fnIsTransportStreamMatchesSyncModel", apart := false }
def FnIsTransportStreamMatchesSyncModelSaid : Prop := fnIsTransportStreamMatchesSyncModelRow.holds Try.pinned (OpenSpec.ofChange fnIsTransportStreamMatchesSyncModelSpec)

/-- ITS FALSE NEIGHBOUR: 'it returns false'. Refute it at one input. -/
def fnIsTransportStreamMatchesSyncModelWrong : ChangeSpec := { name := "fnIsTransportStreamMatchesSyncModel", fn := fun _ => fun
  | [d] => { results := [.lit (.bool false)], args := [d] }
  | _ => none }
def FnIsTransportStreamMatchesSyncModelWrongFalsely : Prop := fnIsTransportStreamMatchesSyncModelRow.holds Try.pinned (OpenSpec.ofChange fnIsTransportStreamMatchesSyncModelWrong)

/-- 'zzlaws_internal_mediatype_b1.FnIsTransportStreamPrefixClosed': WHATEVER THE INPUT: true; the input reads as it did. -/
def fnIsTransportStreamPrefixClosedSpec : ChangeSpec := { name := "fnIsTransportStreamPrefixClosed", fn := fun _ => fun
  | [d1, d2] => { results := [.lit (.bool true)], args := [d1, d2] }
  | _ => none }
def fnIsTransportStreamPrefixClosedRow : OpenClaim := { program := "qxb6603128a", sum := "f859eb8c1623b619dc741442f399884d961c661f0cbeb9ae220211b48c4705b0", func := "example.com/sumvault/sumvault/zzlaws_internal_mediatype_b1.FnIsTransportStreamPrefixClosed", spec := "fnIsTransportStreamPrefixClosed", apart := false }
def FnIsTransportStreamPrefixClosedSaid : Prop := fnIsTransportStreamPrefixClosedRow.holds Try.pinned (OpenSpec.ofChange fnIsTransportStreamPrefixClosedSpec)

/-- ITS FALSE NEIGHBOUR: 'it returns false'. Refute it at one input. -/
def fnIsTransportStreamPrefixClosedWrong : ChangeSpec := { name := "fnIsTransportStreamPrefixClosed", fn := fun _ => fun
  | [d1, d2] => { results := [.lit (.bool false)], args := [d1, d2] }
  | _ => none }
def FnIsTransportStreamPrefixClosedWrongFalsely : Prop := fnIsTransportStreamPrefixClosedRow.holds Try.pinned (OpenSpec.ofChange fnIsTransportStreamPrefixClosedWrong)

/-- 'zzlaws_internal_mediatype_b1.FnIsTransportStreamIgnoresPayloadBytes': WHATEVER THE INPUT: true; the input reads as it did. -/
def fnIsTransportStreamIgnoresPayloadBytesSpec : ChangeSpec := { name := "fnIsTransportStreamIgnoresPayloadBytes", fn := fun _ => fun
  | [d1, d2, d3] => { results := [.lit (.bool true)], args := [d1, d2, d3] }
  | _ => none }
def fnIsTransportStreamIgnoresPayloadBytesRow : OpenClaim := { program := "qxb6603128a", sum := "f859eb8c1623b619dc741442f399884d961c661f0cbeb9ae220211b48c4705b0", func := "example.com/sumvault/sumvault/zzlaws_internal_mediatype_b1.FnIsTransportStreamIgnoresPayloadBytes", spec := "fnIsTransportStreamIgnoresPayloadBytes", apart := false }
def FnIsTransportStreamIgnoresPayloadBytesSaid : Prop := fnIsTransportStreamIgnoresPayloadBytesRow.holds Try.pinned (OpenSpec.ofChange fnIsTransportStreamIgnoresPayloadBytesSpec)

/-- ITS FALSE NEIGHBOUR: 'it returns false'. Refute it at one input. -/
def fnIsTransportStreamIgnoresPayloadBytesWrong : ChangeSpec := { name := "fnIsTransportStreamIgnoresPayloadBytes", fn := fun _ => fun
  | [d1, d2, d3] => { results := [.lit (.bool false)], args := [d1, d2, d3] }
  | _ => none }
def FnIsTransportStreamIgnoresPayloadBytesWrongFalsely : Prop := fnIsTransportStreamIgnoresPayloadBytesRow.holds Try.pinned (OpenSpec.ofChange fnIsTransportStreamIgnoresPayloadBytesWrong)

end Rows
end Go.Proofs.Qxb6603128a
