/-
  No cell of these rows narrows 'for every input' (looked for: loops, veiled, ifaces, maps, wideKeys, modest, calm, conditions, laid).
  DERIVED. THE GIVEN ROWS OF THIS SEAT. 4 by the template 'for every input the law returns true; each argument reads behind the call as it read before'; 0 by the template 'total and deterministic' (their statements: Qxb6609239aTotals.lean).
  GIVEN WITH THE SEED: the statements are not yours to turn. If you find one false, say at which input.
  Laid BY PROGRAM, IN A SANDBOX (cutbox-rows.mjs): the forced cells as the released guide's own fill.sh prints them over the translation b474f706288e9178… (all of the seat's roots in one cut). By AI agents, Wed Nov 11 2026. No macro, syntax, notation, axiom, sorry.
-/
import Derived.Test.Qxb6609239aChecked
import GoSem.Claim
import GoSem.ClaimJoined
import GoSem.ClaimMapViews
import Derived.JoinedTies
import Derived.KernelRfl
namespace Go.Proofs.Qxb6609239a
/- THE CELL 'sum', in the pinned program and in every row, IS THE sha256 OF THE DUMP (.gsa) THAT Qxb6609239aProg.lean LOADS. Nothing in Lean hashes anything: it is a label: what it is worth is what the hold of that sum in a sandbox is worth. -/
noncomputable def Try.pinned : Pinned := { name := "qxb6609239a", sum := "b474f706288e9178058beeca78bd82c868cfd951417ddc342bb5ea949b737b0d", checked := Try.checked }
namespace Rows
def none {H : Type} : Left H := { results := [], args := [] }

/-- 'zzlaws_root_b1.FnConnectivityGroupIDTypeIsOneDistinctName': WHATEVER THE INPUT: true; the input reads as it did. -/
def fnConnectivityGroupIDTypeIsOneDistinctNameSpec : ChangeSpec := { name := "fnConnectivityGroupIDTypeIsOneDistinctName", fn := fun _ => fun
  | [d1, d2] => { results := [.lit (.bool true)], args := [d1, d2] }
  | _ => none }
def fnConnectivityGroupIDTypeIsOneDistinctNameRow : OpenClaim := { program := "qxb6609239a", sum := "b474f706288e9178058beeca78bd82c868cfd951417ddc342bb5ea949b737b0d", func := "example.com/steerbook/steerbook/zzlaws_root_b1.FnConnectivityGroupIDTypeIsOneDistinctName", spec := "fnConnectivityGroupIDTypeIsOneDistinctName", apart := false }
def FnConnectivityGroupIDTypeIsOneDistinctNameSaid : Prop := fnConnectivityGroupIDTypeIsOneDistinctNameRow.holds Try.pinned (OpenSpec.ofChange fnConnectivityGroupIDTypeIsOneDistinctNameSpec)

/-- ITS FALSE NEIGHBOUR: 'it returns false'. Refute it at one input. -/
def fnConnectivityGroupIDTypeIsOneDistinctNameWrong : ChangeSpec := { name := "fnConnectivityGroupIDTypeIsOneDistinctName", fn := fun _ => fun
  | [d1, d2] => { results := [.lit (.bool false)], args := [d1, d2] }
  | _ => none }
def FnConnectivityGroupIDTypeIsOneDistinctNameWrongFalsely : Prop := fnConnectivityGroupIDTypeIsOneDistinctNameRow.holds Try.pinned (OpenSpec.ofChange fnConnectivityGroupIDTypeIsOneDistinctNameWrong)

/-- 'zzlaws_root_b1.FnIPv6RemoteTypeIsOneDistinctName': WHATEVER THE INPUT: true; the input reads as it did. -/
def fnIPv6RemoteTypeIsOneDistinctNameSpec : ChangeSpec := { name := "fnIPv6RemoteTypeIsOneDistinctName", fn := fun _ => fun
  | [d1, d2, d3, d4] => { results := [.lit (.bool true)], args := [d1, d2, d3, d4] }
  | _ => none }
def fnIPv6RemoteTypeIsOneDistinctNameRow : OpenClaim := { program := "qxb6609239a", sum := "b474f706288e9178058beeca78bd82c868cfd951417ddc342bb5ea949b737b0d", func := "example.com/steerbook/steerbook/zzlaws_root_b1.FnIPv6RemoteTypeIsOneDistinctName", spec := "fnIPv6RemoteTypeIsOneDistinctName", apart := false }
def FnIPv6RemoteTypeIsOneDistinctNameSaid : Prop := fnIPv6RemoteTypeIsOneDistinctNameRow.holds Try.pinned (OpenSpec.ofChange fnIPv6RemoteTypeIsOneDistinctNameSpec)

/-- ITS FALSE NEIGHBOUR: 'it returns false'. Refute it at one input. -/
def fnIPv6RemoteTypeIsOneDistinctNameWrong : ChangeSpec := { name := "fnIPv6RemoteTypeIsOneDistinctName", fn := fun _ => fun
  | [d1, d2, d3, d4] => { results := [.lit (.bool false)], args := [d1, d2, d3, d4] }
  | _ => none }
def FnIPv6RemoteTypeIsOneDistinctNameWrongFalsely : Prop := fnIPv6RemoteTypeIsOneDistinctNameRow.holds Try.pinned (OpenSpec.ofChange fnIPv6RemoteTypeIsOneDistinctNameWrong)

/-- 'zzlaws_root_b1.FnRetryExactly': WHATEVER THE INPUT: true; the input reads as it did. -/
def fnRetryExactlySpec : ChangeSpec := { name := "fnRetryExactly", fn := fun _ => fun
  | [d1, d2, d3, d4] => { results := [.lit (.bool true)], args := [d1, d2, d3, d4] }
  | _ => none }
def fnRetryExactlyRow : OpenClaim := { program := "qxb6609239a", sum := "b474f706288e9178058beeca78bd82c868cfd951417ddc342bb5ea949b737b0d", func := "example.com/steerbook/steerbook/zzlaws_root_b1.FnRetryExactly", spec := "fnRetryExactly", unfollowed := true, recurses := true, apart := false }
def FnRetryExactlySaid : Prop := fnRetryExactlyRow.holds Try.pinned (OpenSpec.ofChange fnRetryExactlySpec)

/-- ITS FALSE NEIGHBOUR: 'it returns false'. Refute it at one input. -/
def fnRetryExactlyWrong : ChangeSpec := { name := "fnRetryExactly", fn := fun _ => fun
  | [d1, d2, d3, d4] => { results := [.lit (.bool false)], args := [d1, d2, d3, d4] }
  | _ => none }
def FnRetryExactlyWrongFalsely : Prop := fnRetryExactlyRow.holds Try.pinned (OpenSpec.ofChange fnRetryExactlyWrong)

/-- 'zzlaws_root_b1.FnRetryWalksRouteDNNsOnce': WHATEVER THE INPUT: true; the input reads as it did. -/
def fnRetryWalksRouteDNNsOnceSpec : ChangeSpec := { name := "fnRetryWalksRouteDNNsOnce", fn := fun _ => fun
  | [d1, d2, d3, d4] => { results := [.lit (.bool true)], args := [d1, d2, d3, d4] }
  | _ => none }
def fnRetryWalksRouteDNNsOnceRow : OpenClaim := { program := "qxb6609239a", sum := "b474f706288e9178058beeca78bd82c868cfd951417ddc342bb5ea949b737b0d", func := "example.com/steerbook/steerbook/zzlaws_root_b1.FnRetryWalksRouteDNNsOnce", spec := "fnRetryWalksRouteDNNsOnce", unfollowed := true, recurses := true, apart := false }
def FnRetryWalksRouteDNNsOnceSaid : Prop := fnRetryWalksRouteDNNsOnceRow.holds Try.pinned (OpenSpec.ofChange fnRetryWalksRouteDNNsOnceSpec)

/-- ITS FALSE NEIGHBOUR: 'it returns false'. Refute it at one input. -/
def fnRetryWalksRouteDNNsOnceWrong : ChangeSpec := { name := "fnRetryWalksRouteDNNsOnce", fn := fun _ => fun
  | [d1, d2, d3, d4] => { results := [.lit (.bool false)], args := [d1, d2, d3, d4] }
  | _ => none }
def FnRetryWalksRouteDNNsOnceWrongFalsely : Prop := fnRetryWalksRouteDNNsOnceRow.holds Try.pinned (OpenSpec.ofChange fnRetryWalksRouteDNNsOnceWrong)

end Rows
end Go.Proofs.Qxb6609239a
