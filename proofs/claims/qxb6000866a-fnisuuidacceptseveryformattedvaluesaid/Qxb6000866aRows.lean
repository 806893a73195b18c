/-
  No cell of these rows narrows 'for every input' (looked for: loops, veiled, ifaces, maps, wideKeys, modest, calm, conditions, laid).
  DERIVED. THE GIVEN ROWS OF THIS SEAT. 7 by the template 'for every input the law returns true; each argument reads behind the call as it read before'; 0 by the template 'total and deterministic' (their statements: Qxb6000866aTotals.lean).
  GIVEN WITH THE SEED: the statements are not yours to turn. If you find one false, say at which input.
  Laid BY PROGRAM, IN A SANDBOX (cutbox-rows.mjs): the forced cells as the released guide's own fill.sh prints them over the translation 571c10d643ce18f1… (all of the seat's roots in one cut). By AI agents, Wed Nov 11 2026. No macro, syntax, notation, axiom, sorry.
-/
import Derived.Test.Qxb6000866aChecked
import GoSem.Claim
import GoSem.ClaimJoined
import GoSem.ClaimMapViews
import Derived.JoinedTies
import Derived.KernelRfl
namespace Go.Proofs.Qxb6000866a
/- THE CELL 'sum', in the pinned program and in every row, IS THE sha256 OF THE DUMP (.gsa) THAT Qxb6000866aProg.lean LOADS. Nothing in Lean hashes anything: it is a label: what it is worth is what the hold of that sum in a sandbox is worth. -/
noncomputable def Try.pinned : Pinned := { name := "qxb6000866a", sum := "571c10d643ce18f140b2296720140254703e62c4903ae7988c06e9bb7b11dff4", checked := Try.checked }
namespace Rows
def none {H : Type} : Left H := { results := [], args := [] }

/-- 'zzlaws_pkg_store_b1.FnIsUUIDMatchesGroupModel': WHATEVER THE INPUT: true; the input reads as it did. -/
def fnIsUUIDMatchesGroupModelSpec : ChangeSpec := { name := "fnIsUUIDMatchesGroupModel", fn := fun _ => fun
  | [d] => { results := [.lit (.bool true)], args := [d] }
  | _ => none }
def fnIsUUIDMatchesGroupModelRow : OpenClaim := { program := "qxb6000866a", sum := "571c10d643ce18f140b2296720140254703e62c4903ae7988c06e9bb7b11dff4", func := "example.com/peerledger/peerledger/zzlaws_pkg_store_b1.FnIsUUIDMatchesGroupModel", spec := "fnIsUUIDMatchesGroupModel", apart := false }
def FnIsUUIDMatchesGroupModelSaid : Prop := fnIsUUIDMatchesGroupModelRow.holds Try.pinned (OpenSpec.ofChange fnIsUUIDMatchesGroupModelSpec)

/-- ITS FALSE NEIGHBOUR: 'it returns false'. Refute it at one input. -/
def fnIsUUIDMatchesGroupModelWrong : ChangeSpec := { name := "fnIsUUIDMatchesGroupModel", fn := fun _ => fun
  | [d] => { results := [.lit (.bool false)], args := [d] }
  | _ => none }
def FnIsUUIDMatchesGroupModelWrongFalsely : Prop := fnIsUUIDMatchesGroupModelRow.holds Try.pinned (OpenSpec.ofChange fnIsUUIDMatchesGroupModelWrong)

/-- 'zzlaws_pkg_store_b1.FnIsUUIDIgnoresASCIICase': WHATEVER THE INPUT: true; the input reads as it did. -/
def fnIsUUIDIgnoresASCIICaseSpec : ChangeSpec := { name := "fnIsUUIDIgnoresASCIICase", fn := fun _ => fun
  | [d] => { results := [.lit (.bool true)], args := [d] }
  | _ => none }
def fnIsUUIDIgnoresASCIICaseRow : OpenClaim := { program := "qxb6000866a", sum := "571c10d643ce18f140b2296720140254703e62c4903ae7988c06e9bb7b11dff4", func := "example.com/peerledger/peerledger/zzlaws_pkg_store_b1.FnIsUUIDIgnoresASCIICase", spec := "fnIsUUIDIgnoresASCIICase", apart := false }
def FnIsUUIDIgnoresASCIICaseSaid : Prop := fnIsUUIDIgnoresASCIICaseRow.holds Try.pinned (OpenSpec.ofChange fnIsUUIDIgnoresASCIICaseSpec)

/-- ITS FALSE NEIGHBOUR: 'it returns false'. Refute it at one input. -/
def fnIsUUIDIgnoresASCIICaseWrong : ChangeSpec := { name := "fnIsUUIDIgnoresASCIICase", fn := fun _ => fun
  | [d] => { results := [.lit (.bool false)], args := [d] }
  | _ => none }
def FnIsUUIDIgnoresASCIICaseWrongFalsely : Prop := fnIsUUIDIgnoresASCIICaseRow.holds Try.pinned (OpenSpec.ofChange fnIsUUIDIgnoresASCIICaseWrong)

/-- 'zzlaws_pkg_store_b1.FnIsUUIDAcceptsEveryFormattedValue': WHATEVER THE INPUT: true; the input reads as it did. -/
def fnIsUUIDAcceptsEveryFormattedValueSpec : ChangeSpec := { name := "fnIsUUIDAcceptsEveryFormattedValue", fn := fun _ => fun
  | [d1, d2] => { results := [.lit (.bool true)], args := [d1, d2] }
  | _ => none }
def fnIsUUIDAcceptsEveryFormattedValueRow : OpenClaim := { program := "qxb6000866a", sum := "571c10d643ce18f140b2296720140254703e62c4903ae7988c06e9bb7b11dff4", func := "example.com/peerledger/peerledger/zzlaws_pkg_store_b1.FnIsUUIDAcceptsEveryFormattedValue", spec := "fnIsUUIDAcceptsEveryFormattedValue", apart := false }
def FnIsUUIDAcceptsEveryFormattedValueSaid : Prop := fnIsUUIDAcceptsEveryFormattedValueRow.holds Try.pinned (OpenSpec.ofChange fnIsUUIDAcceptsEveryFormattedValueSpec)

/-- ITS FALSE NEIGHBOUR: 'it returns false'. Refute it at one input. -/
def fnIsUUIDAcceptsEveryFormattedValueWrong : ChangeSpec := { name := "fnIsUUIDAcceptsEveryFormattedValue", fn := fun _ => fun
  | [d1, d2] => { results := [.lit (.bool false)], args := [d1, d2] }
  | _ => none }
def FnIsUUIDAcceptsEveryFormattedValueWrongFalsely : Prop := fnIsUUIDAcceptsEveryFormattedValueRow.holds Try.pinned (OpenSpec.ofChange fnIsUUIDAcceptsEveryFormattedValueWrong)

/-- 'zzlaws_pkg_store_b1.FnActivityQueryFixedFrame': WHATEVER THE INPUT: true; the input reads as it did. -/
def fnActivityQueryFixedFrameSpec : ChangeSpec := { name := "fnActivityQueryFixedFrame", fn := fun _ => fun
  | [d1, d2] => { results := [.lit (.bool true)], args := [d1, d2] }
  | _ => none }
def fnActivityQueryFixedFrameRow : OpenClaim := { program := "qxb6000866a", sum := "571c10d643ce18f140b2296720140254703e62c4903ae7988c06e9bb7b11dff4", func := "example.com/peerledger/peerledger/zzlaws_pkg_store_b1.FnActivityQueryFixedFrame", spec := "fnActivityQueryFixedFrame", apart := false }
def FnActivityQueryFixedFrameSaid : Prop := fnActivityQueryFixedFrameRow.holds Try.pinned (OpenSpec.ofChange fnActivityQueryFixedFrameSpec)

/-- ITS FALSE NEIGHBOUR: 'it returns false'. Refute it at one input. -/
def fnActivityQueryFixedFrameWrong : ChangeSpec := { name := "fnActivityQueryFixedFrame", fn := fun _ => fun
  | [d1, d2] => { results := [.lit (.bool false)], args := [d1, d2] }
  | _ => none }
def FnActivityQueryFixedFrameWrongFalsely : Prop := fnActivityQueryFixedFrameRow.holds Try.pinned (OpenSpec.ofChange fnActivityQueryFixedFrameWrong)

/-- 'zzlaws_pkg_store_b1.FnActivityQueryInjective': WHATEVER THE INPUT: true; the input reads as it did. -/
def fnActivityQueryInjectiveSpec : ChangeSpec := { name := "fnActivityQueryInjective", fn := fun _ => fun
  | [d1, d2] => { results := [.lit (.bool true)], args := [d1, d2] }
  | _ => none }
def fnActivityQueryInjectiveRow : OpenClaim := { program := "qxb6000866a", sum := "571c10d643ce18f140b2296720140254703e62c4903ae7988c06e9bb7b11dff4", func := "example.com/peerledger/peerledger/zzlaws_pkg_store_b1.FnActivityQueryInjective", spec := "fnActivityQueryInjective", apart := false }
def FnActivityQueryInjectiveSaid : Prop := fnActivityQueryInjectiveRow.holds Try.pinned (OpenSpec.ofChange fnActivityQueryInjectiveSpec)

/-- ITS FALSE NEIGHBOUR: 'it returns false'. Refute it at one input. -/
def fnActivityQueryInjectiveWrong : ChangeSpec := { name := "fnActivityQueryInjective", fn := fun _ => fun
  | [d1, d2] => { results := [.lit (.bool false)], args := [d1, d2] }
  | _ => none }
def FnActivityQueryInjectiveWrongFalsely : Prop := fnActivityQueryInjectiveRow.holds Try.pinned (OpenSpec.ofChange fnActivityQueryInjectiveWrong)

/-- 'zzlaws_pkg_store_b1.FnCountedStatusesPartitionKnown': WHATEVER THE INPUT: true; the input reads as it did. -/
def fnCountedStatusesPartitionKnownSpec : ChangeSpec := { name := "fnCountedStatusesPartitionKnown", fn := fun _ => fun
  | [d] => { results := [.lit (.bool true)], args := [d] }
  | _ => none }
def fnCountedStatusesPartitionKnownRow : OpenClaim := { program := "qxb6000866a", sum := "571c10d643ce18f140b2296720140254703e62c4903ae7988c06e9bb7b11dff4", func := "example.com/peerledger/peerledger/zzlaws_pkg_store_b1.FnCountedStatusesPartitionKnown", spec := "fnCountedStatusesPartitionKnown", apart := false }
def FnCountedStatusesPartitionKnownSaid : Prop := fnCountedStatusesPartitionKnownRow.holds Try.pinned (OpenSpec.ofChange fnCountedStatusesPartitionKnownSpec)

/-- ITS FALSE NEIGHBOUR: 'it returns false'. Refute it at one input. -/
def fnCountedStatusesPartitionKnownWrong : ChangeSpec := { name := "fnCountedStatusesPartitionKnown", fn := fun _ => fun
  | [d] => { results := [.lit (.bool false)], args := [d] }
  | _ => none }
def FnCountedStatusesPartitionKnownWrongFalsely : Prop := fnCountedStatusesPartitionKnownRow.holds Try.pinned (OpenSpec.ofChange fnCountedStatusesPartitionKnownWrong)

/-- 'zzlaws_pkg_store_b1.FnCountedStatusesFreshEachCall': WHATEVER THE INPUT: true; the input reads as it did. -/
def fnCountedStatusesFreshEachCallSpec : ChangeSpec := { name := "fnCountedStatusesFreshEachCall", fn := fun _ => fun
  | [d] => { results := [.lit (.bool true)], args := [d] }
  | _ => none }
def fnCountedStatusesFreshEachCallRow : OpenClaim := { program := "qxb6000866a", sum := "571c10d643ce18f140b2296720140254703e62c4903ae7988c06e9bb7b11dff4", func := "example.com/peerledger/peerledger/zzlaws_pkg_store_b1.FnCountedStatusesFreshEachCall", spec := "fnCountedStatusesFreshEachCall", apart := false }
def FnCountedStatusesFreshEachCallSaid : Prop := fnCountedStatusesFreshEachCallRow.holds Try.pinned (OpenSpec.ofChange fnCountedStatusesFreshEachCallSpec)

/-- ITS FALSE NEIGHBOUR: 'it returns false'. Refute it at one input. -/
def fnCountedStatusesFreshEachCallWrong : ChangeSpec := { name := "fnCountedStatusesFreshEachCall", fn := fun _ => fun
  | [d] => { results := [.lit (.bool false)], args := [d] }
  | _ => none }
def FnCountedStatusesFreshEachCallWrongFalsely : Prop := fnCountedStatusesFreshEachCallRow.holds Try.pinned (OpenSpec.ofChange fnCountedStatusesFreshEachCallWrong)

end Rows
end Go.Proofs.Qxb6000866a
