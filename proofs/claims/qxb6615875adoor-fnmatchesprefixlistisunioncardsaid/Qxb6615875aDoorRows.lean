/-
  NARROWER THAN 'FOR EVERY INPUT', by the rows' own cells (each row's printed sentence says how): FnIsICMPExactlyOneProtocolPerPacket: laid · FnIsICMPAgreesWithServiceMatch: laid · FnMatchesPrefixListIsUnion: laid · FnMatchesHostZoneSides: laid.
  DERIVED. THE GIVEN ROWS OF THIS SEAT. 4 by the template 'for every input the law returns true; each argument reads behind the call as it read before'; 0 by the template 'total and deterministic' (their statements: Qxb6615875aDoorTotals.lean).
  GIVEN WITH THE SEED: the statements are not yours to turn. If you find one false, say at which input.
  Laid BY PROGRAM, IN A SANDBOX (cutbox-rows.mjs): the forced cells as the released guide's own fill.sh prints them over the translation 6ad16ba81700c71b… (all of the seat's roots in one cut). By AI agents, Wed Nov 11 2026. No macro, syntax, notation, axiom, sorry.
-/
import Derived.Test.Qxb6615875aDoorChecked
import GoSem.Claim
import GoSem.ClaimJoined
import GoSem.ClaimMapViews
import Derived.JoinedTies
import Derived.KernelRfl
namespace Go.Proofs.Qxb6615875aDoor
/- THE CELL 'sum', in the pinned program and in every row, IS THE sha256 OF THE DUMP (.gsa) THAT Qxb6615875aDoorProg.lean LOADS. Nothing in Lean hashes anything: it is a label: what it is worth is what the hold of that sum in a sandbox is worth. -/
noncomputable def Tryd.pinned : Pinned := { name := "qxb6615875adoor", sum := "6ad16ba81700c71b357e97df153ff74bce52a47b74a1373b22206309ba9d010a", checked := Tryd.checked }
namespace Rows
def none {H : Type} : Left H := { results := [], args := [] }

/- WHAT THE LISTED PACKAGE-LEVEL VARIABLES READ AS WHEN THE CALL BEGINS. Each datum BY PROGRAM (the guide's laid-datum.mjs) off the statement by which the dump's own 'gosem.cut.vars' lays the variable. In a bare row this is a premise. The card (Qxb6615875aDoorCards.lean) ties it to the program's text. -/
def laid_net_netip_z4 {H : Type} : DataW H := .agg [.ptr (.agg [.lit (.bool false), .lit (.string [])])]
def laid_net_netip_z6noz {H : Type} : DataW H := .agg [.ptr (.agg [.lit (.bool true), .lit (.string [])])]
def laid_net_netip_z0 {H : Type} : DataW H := .agg [.nil]

/-- 'zzlaws_internal_policy_b1.FnIsICMPExactlyOneProtocolPerPacket': WHATEVER THE INPUT: true; the input reads as it did. -/
def fnIsICMPExactlyOneProtocolPerPacketSpec : ChangeSpec := { name := "fnIsICMPExactlyOneProtocolPerPacket", fn := fun _ => fun
  | [d1, d2, d3, d4, d5, d6, d7, d8, d9] => { results := [.lit (.bool true)], args := [d1, d2, d3, d4, d5, d6, d7, d8, d9] }
  | _ => none }
def fnIsICMPExactlyOneProtocolPerPacketRow : OpenClaim := { program := "qxb6615875adoor", sum := "6ad16ba81700c71b357e97df153ff74bce52a47b74a1373b22206309ba9d010a", func := "example.com/fencewright/fencewright/zzlaws_internal_policy_b1.FnIsICMPExactlyOneProtocolPerPacket", spec := "fnIsICMPExactlyOneProtocolPerPacket", named := ["net/netip.z4", "net/netip.z6noz"], apart := false, laid := [("net/netip.z4", laid_net_netip_z4), ("net/netip.z6noz", laid_net_netip_z6noz)] }
def FnIsICMPExactlyOneProtocolPerPacketSaid : Prop := fnIsICMPExactlyOneProtocolPerPacketRow.holds Tryd.pinned (OpenSpec.ofChange fnIsICMPExactlyOneProtocolPerPacketSpec)

/-- ITS FALSE NEIGHBOUR: 'it returns false'. Refute it at one input. -/
def fnIsICMPExactlyOneProtocolPerPacketWrong : ChangeSpec := { name := "fnIsICMPExactlyOneProtocolPerPacket", fn := fun _ => fun
  | [d1, d2, d3, d4, d5, d6, d7, d8, d9] => { results := [.lit (.bool false)], args := [d1, d2, d3, d4, d5, d6, d7, d8, d9] }
  | _ => none }
def FnIsICMPExactlyOneProtocolPerPacketWrongFalsely : Prop := fnIsICMPExactlyOneProtocolPerPacketRow.holds Tryd.pinned (OpenSpec.ofChange fnIsICMPExactlyOneProtocolPerPacketWrong)

/-- 'zzlaws_internal_policy_b1.FnIsICMPAgreesWithServiceMatch': WHATEVER THE INPUT: true; the input reads as it did. -/
def fnIsICMPAgreesWithServiceMatchSpec : ChangeSpec := { name := "fnIsICMPAgreesWithServiceMatch", fn := fun _ => fun
  | [d1, d2, d3, d4, d5, d6, d7, d8, d9, d10, d11] => { results := [.lit (.bool true)], args := [d1, d2, d3, d4, d5, d6, d7, d8, d9, d10, d11] }
  | _ => none }
def fnIsICMPAgreesWithServiceMatchRow : OpenClaim := { program := "qxb6615875adoor", sum := "6ad16ba81700c71b357e97df153ff74bce52a47b74a1373b22206309ba9d010a", func := "example.com/fencewright/fencewright/zzlaws_internal_policy_b1.FnIsICMPAgreesWithServiceMatch", spec := "fnIsICMPAgreesWithServiceMatch", unfollowed := true, recurses := true, named := ["net/netip.z4", "net/netip.z6noz", "net/netip.z0"], apart := false, laid := [("net/netip.z4", laid_net_netip_z4), ("net/netip.z6noz", laid_net_netip_z6noz), ("net/netip.z0", laid_net_netip_z0)] }
def FnIsICMPAgreesWithServiceMatchSaid : Prop := fnIsICMPAgreesWithServiceMatchRow.holds Tryd.pinned (OpenSpec.ofChange fnIsICMPAgreesWithServiceMatchSpec)

/-- ITS FALSE NEIGHBOUR: 'it returns false'. Refute it at one input. -/
def fnIsICMPAgreesWithServiceMatchWrong : ChangeSpec := { name := "fnIsICMPAgreesWithServiceMatch", fn := fun _ => fun
  | [d1, d2, d3, d4, d5, d6, d7, d8, d9, d10, d11] => { results := [.lit (.bool false)], args := [d1, d2, d3, d4, d5, d6, d7, d8, d9, d10, d11] }
  | _ => none }
def FnIsICMPAgreesWithServiceMatchWrongFalsely : Prop := fnIsICMPAgreesWithServiceMatchRow.holds Tryd.pinned (OpenSpec.ofChange fnIsICMPAgreesWithServiceMatchWrong)

/-- 'zzlaws_internal_policy_b1.FnMatchesPrefixListIsUnion': WHATEVER THE INPUT: true; the input reads as it did. -/
def fnMatchesPrefixListIsUnionSpec : ChangeSpec := { name := "fnMatchesPrefixListIsUnion", fn := fun _ => fun
  | [d1, d2, d3, d4, d5, d6, d7, d8, d9, d10] => { results := [.lit (.bool true)], args := [d1, d2, d3, d4, d5, d6, d7, d8, d9, d10] }
  | _ => none }
def fnMatchesPrefixListIsUnionRow : OpenClaim := { program := "qxb6615875adoor", sum := "6ad16ba81700c71b357e97df153ff74bce52a47b74a1373b22206309ba9d010a", func := "example.com/fencewright/fencewright/zzlaws_internal_policy_b1.FnMatchesPrefixListIsUnion", spec := "fnMatchesPrefixListIsUnion", unfollowed := true, recurses := true, named := ["net/netip.z4", "net/netip.z6noz", "net/netip.z0"], apart := false, laid := [("net/netip.z4", laid_net_netip_z4), ("net/netip.z6noz", laid_net_netip_z6noz), ("net/netip.z0", laid_net_netip_z0)] }
def FnMatchesPrefixListIsUnionSaid : Prop := fnMatchesPrefixListIsUnionRow.holds Tryd.pinned (OpenSpec.ofChange fnMatchesPrefixListIsUnionSpec)

/-- ITS FALSE NEIGHBOUR: 'it returns false'. Refute it at one input. -/
def fnMatchesPrefixListIsUnionWrong : ChangeSpec := { name := "fnMatchesPrefixListIsUnion", fn := fun _ => fun
  | [d1, d2, d3, d4, d5, d6, d7, d8, d9, d10] => { results := [.lit (.bool false)], args := [d1, d2, d3, d4, d5, d6, d7, d8, d9, d10] }
  | _ => none }
def FnMatchesPrefixListIsUnionWrongFalsely : Prop := fnMatchesPrefixListIsUnionRow.holds Tryd.pinned (OpenSpec.ofChange fnMatchesPrefixListIsUnionWrong)

/-- 'zzlaws_internal_policy_b1.FnMatchesHostZoneSides': WHATEVER THE INPUT: true; the input reads as it did. -/
def fnMatchesHostZoneSidesSpec : ChangeSpec := { name := "fnMatchesHostZoneSides", fn := fun _ => fun
  | [d1, d2, d3, d4, d5, d6, d7, d8] => { results := [.lit (.bool true)], args := [d1, d2, d3, d4, d5, d6, d7, d8] }
  | _ => none }
def fnMatchesHostZoneSidesRow : OpenClaim := { program := "qxb6615875adoor", sum := "6ad16ba81700c71b357e97df153ff74bce52a47b74a1373b22206309ba9d010a", func := "example.com/fencewright/fencewright/zzlaws_internal_policy_b1.FnMatchesHostZoneSides", spec := "fnMatchesHostZoneSides", unfollowed := true, recurses := true, named := ["net/netip.z4", "net/netip.z6noz", "net/netip.z0"], apart := false, laid := [("net/netip.z4", laid_net_netip_z4), ("net/netip.z6noz", laid_net_netip_z6noz), ("net/netip.z0", laid_net_netip_z0)] }
def FnMatchesHostZoneSidesSaid : Prop := fnMatchesHostZoneSidesRow.holds Tryd.pinned (OpenSpec.ofChange fnMatchesHostZoneSidesSpec)

/-- ITS FALSE NEIGHBOUR: 'it returns false'. Refute it at one input. -/
def fnMatchesHostZoneSidesWrong : ChangeSpec := { name := "fnMatchesHostZoneSides", fn := fun _ => fun
  | [d1, d2, d3, d4, d5, d6, d7, d8] => { results := [.lit (.bool false)], args := [d1, d2, d3, d4, d5, d6, d7, d8] }
  | _ => none }
def FnMatchesHostZoneSidesWrongFalsely : Prop := fnMatchesHostZoneSidesRow.holds Tryd.pinned (OpenSpec.ofChange fnMatchesHostZoneSidesWrong)

end Rows
end Go.Proofs.Qxb6615875aDoor
