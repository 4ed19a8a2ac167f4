/-
  No cell of these rows narrows 'for every input' (looked for: loops, veiled, ifaces, maps, wideKeys, modest, calm, conditions, laid).
  DERIVED. THE GIVEN ROWS OF THIS SEAT. 5 by the template 'for every input the law returns true; each argument reads behind the call as it read before'; 0 by the template 'total and deterministic' (their statements: Qxb6603363aTotals.lean).
  GIVEN WITH THE SEED: the statements are not yours to turn. If you find one false, say at which input.
  Laid BY PROGRAM, IN A SANDBOX (cutbox-rows.mjs): the forced cells as the released guide's own fill.sh prints them over the translation c21703317ecbf90c… (all of the seat's roots in one cut). By AI agents, Wed Nov 11 2026. No macro, syntax, notation, axiom, sorry.
-/
import Derived.Test.Qxb6603363aChecked
import GoSem.Claim
import GoSem.ClaimJoined
import GoSem.ClaimMapViews
import Derived.JoinedTies
import Derived.KernelRfl
namespace Go.Proofs.Qxb6603363a
/- THE CELL 'sum', in the pinned program and in every row, IS THE sha256 OF THE DUMP (.gsa) THAT Qxb6603363aProg.lean LOADS. Nothing in Lean hashes anything: it is a label: what it is worth is what the hold of that sum in a sandbox is worth. -/
noncomputable def Try.pinned : Pinned := { name := "qxb6603363a", sum := "c21703317ecbf90ca919284b7f112fb8fa37c1deb8fe9684729edde4b87c5436", checked := Try.checked }
namespace Rows
def none {H : Type} : Left H := { results := [], args := [] }

/-- 'zzlaws_root_b1.FnReadStackMatchesLineModel': WHATEVER THE INPUT: true; the input reads as it did. -/
def fnReadStackMatchesLineModelSpec : ChangeSpec := { name := "fnReadStackMatchesLineModel", fn := fun _ => fun
  | [d] => { results := [.lit (.bool true)], args := [d] }
  | _ => none }
def fnReadStackMatchesLineModelRow : OpenClaim := { program := "qxb6603363a", sum := "c21703317ecbf90ca919284b7f112fb8fa37c1deb8fe9684729edde4b87c5436", func := "example.com/ketju/ketju/zzlaws_root_b1.FnReadStackMatchesLineModel", spec := "fnReadStackMatchesLineModel", inPlace := ["internal/bytealg.IndexByte", "internal/bytealg.Index"], named := ["internal/bytealg.MaxLen"], apart := false }
def FnReadStackMatchesLineModelSaid : Prop := fnReadStackMatchesLineModelRow.holds Try.pinned (OpenSpec.ofChange fnReadStackMatchesLineModelSpec)

/-- ITS FALSE NEIGHBOUR: 'it returns false'. Refute it at one input. -/
def fnReadStackMatchesLineModelWrong : ChangeSpec := { name := "fnReadStackMatchesLineModel", fn := fun _ => fun
  | [d] => { results := [.lit (.bool false)], args := [d] }
  | _ => none }
def FnReadStackMatchesLineModelWrongFalsely : Prop := fnReadStackMatchesLineModelRow.holds Try.pinned (OpenSpec.ofChange fnReadStackMatchesLineModelWrong)

/-- 'zzlaws_root_b1.FnReadStackIgnoresBytesAfterTheSecondFrame': WHATEVER THE INPUT: true; the input reads as it did. -/
def fnReadStackIgnoresBytesAfterTheSecondFrameSpec : ChangeSpec := { name := "fnReadStackIgnoresBytesAfterTheSecondFrame", fn := fun _ => fun
  | [d1, d2] => { results := [.lit (.bool true)], args := [d1, d2] }
  | _ => none }
def fnReadStackIgnoresBytesAfterTheSecondFrameRow : OpenClaim := { program := "qxb6603363a", sum := "c21703317ecbf90ca919284b7f112fb8fa37c1deb8fe9684729edde4b87c5436", func := "example.com/ketju/ketju/zzlaws_root_b1.FnReadStackIgnoresBytesAfterTheSecondFrame", spec := "fnReadStackIgnoresBytesAfterTheSecondFrame", inPlace := ["internal/bytealg.IndexByte", "internal/bytealg.Index"], named := ["internal/bytealg.MaxLen"], apart := false }
def FnReadStackIgnoresBytesAfterTheSecondFrameSaid : Prop := fnReadStackIgnoresBytesAfterTheSecondFrameRow.holds Try.pinned (OpenSpec.ofChange fnReadStackIgnoresBytesAfterTheSecondFrameSpec)

/-- ITS FALSE NEIGHBOUR: 'it returns false'. Refute it at one input. -/
def fnReadStackIgnoresBytesAfterTheSecondFrameWrong : ChangeSpec := { name := "fnReadStackIgnoresBytesAfterTheSecondFrame", fn := fun _ => fun
  | [d1, d2] => { results := [.lit (.bool false)], args := [d1, d2] }
  | _ => none }
def FnReadStackIgnoresBytesAfterTheSecondFrameWrongFalsely : Prop := fnReadStackIgnoresBytesAfterTheSecondFrameRow.holds Try.pinned (OpenSpec.ofChange fnReadStackIgnoresBytesAfterTheSecondFrameWrong)

/-- 'zzlaws_root_b1.FnValidTracestateMemberMatchesAutomaton': WHATEVER THE INPUT: true; the input reads as it did. -/
def fnValidTracestateMemberMatchesAutomatonSpec : ChangeSpec := { name := "fnValidTracestateMemberMatchesAutomaton", fn := fun _ => fun
  | [d] => { results := [.lit (.bool true)], args := [d] }
  | _ => none }
def fnValidTracestateMemberMatchesAutomatonRow : OpenClaim := { program := "qxb6603363a", sum := "c21703317ecbf90ca919284b7f112fb8fa37c1deb8fe9684729edde4b87c5436", func := "example.com/ketju/ketju/zzlaws_root_b1.FnValidTracestateMemberMatchesAutomaton", spec := "fnValidTracestateMemberMatchesAutomaton", inPlace := ["internal/bytealg.IndexByteString", "internal/bytealg.IndexString"], named := ["internal/bytealg.MaxLen"], apart := false }
def FnValidTracestateMemberMatchesAutomatonSaid : Prop := fnValidTracestateMemberMatchesAutomatonRow.holds Try.pinned (OpenSpec.ofChange fnValidTracestateMemberMatchesAutomatonSpec)

/-- ITS FALSE NEIGHBOUR: 'it returns false'. Refute it at one input. -/
def fnValidTracestateMemberMatchesAutomatonWrong : ChangeSpec := { name := "fnValidTracestateMemberMatchesAutomaton", fn := fun _ => fun
  | [d] => { results := [.lit (.bool false)], args := [d] }
  | _ => none }
def FnValidTracestateMemberMatchesAutomatonWrongFalsely : Prop := fnValidTracestateMemberMatchesAutomatonRow.holds Try.pinned (OpenSpec.ofChange fnValidTracestateMemberMatchesAutomatonWrong)

/-- 'zzlaws_root_b1.FnValidTracestateMemberIsOneCleanMember': WHATEVER THE INPUT: true; the input reads as it did. -/
def fnValidTracestateMemberIsOneCleanMemberSpec : ChangeSpec := { name := "fnValidTracestateMemberIsOneCleanMember", fn := fun _ => fun
  | [d] => { results := [.lit (.bool true)], args := [d] }
  | _ => none }
def fnValidTracestateMemberIsOneCleanMemberRow : OpenClaim := { program := "qxb6603363a", sum := "c21703317ecbf90ca919284b7f112fb8fa37c1deb8fe9684729edde4b87c5436", func := "example.com/ketju/ketju/zzlaws_root_b1.FnValidTracestateMemberIsOneCleanMember", spec := "fnValidTracestateMemberIsOneCleanMember", inPlace := ["internal/bytealg.IndexByteString", "internal/bytealg.IndexString"], named := ["internal/bytealg.MaxLen"], apart := false }
def FnValidTracestateMemberIsOneCleanMemberSaid : Prop := fnValidTracestateMemberIsOneCleanMemberRow.holds Try.pinned (OpenSpec.ofChange fnValidTracestateMemberIsOneCleanMemberSpec)

/-- ITS FALSE NEIGHBOUR: 'it returns false'. Refute it at one input. -/
def fnValidTracestateMemberIsOneCleanMemberWrong : ChangeSpec := { name := "fnValidTracestateMemberIsOneCleanMember", fn := fun _ => fun
  | [d] => { results := [.lit (.bool false)], args := [d] }
  | _ => none }
def FnValidTracestateMemberIsOneCleanMemberWrongFalsely : Prop := fnValidTracestateMemberIsOneCleanMemberRow.holds Try.pinned (OpenSpec.ofChange fnValidTracestateMemberIsOneCleanMemberWrong)

/-- 'zzlaws_root_b1.FnValidTracestateMemberSplitsIntoKeyAndValue': WHATEVER THE INPUT: true; the input reads as it did. -/
def fnValidTracestateMemberSplitsIntoKeyAndValueSpec : ChangeSpec := { name := "fnValidTracestateMemberSplitsIntoKeyAndValue", fn := fun _ => fun
  | [d1, d2] => { results := [.lit (.bool true)], args := [d1, d2] }
  | _ => none }
def fnValidTracestateMemberSplitsIntoKeyAndValueRow : OpenClaim := { program := "qxb6603363a", sum := "c21703317ecbf90ca919284b7f112fb8fa37c1deb8fe9684729edde4b87c5436", func := "example.com/ketju/ketju/zzlaws_root_b1.FnValidTracestateMemberSplitsIntoKeyAndValue", spec := "fnValidTracestateMemberSplitsIntoKeyAndValue", inPlace := ["internal/bytealg.IndexByteString", "internal/bytealg.IndexString"], named := ["internal/bytealg.MaxLen"], apart := false }
def FnValidTracestateMemberSplitsIntoKeyAndValueSaid : Prop := fnValidTracestateMemberSplitsIntoKeyAndValueRow.holds Try.pinned (OpenSpec.ofChange fnValidTracestateMemberSplitsIntoKeyAndValueSpec)

/-- ITS FALSE NEIGHBOUR: 'it returns false'. Refute it at one input. -/
def fnValidTracestateMemberSplitsIntoKeyAndValueWrong : ChangeSpec := { name := "fnValidTracestateMemberSplitsIntoKeyAndValue", fn := fun _ => fun
  | [d1, d2] => { results := [.lit (.bool false)], args := [d1, d2] }
  | _ => none }
def FnValidTracestateMemberSplitsIntoKeyAndValueWrongFalsely : Prop := fnValidTracestateMemberSplitsIntoKeyAndValueRow.holds Try.pinned (OpenSpec.ofChange fnValidTracestateMemberSplitsIntoKeyAndValueWrong)

end Rows
end Go.Proofs.Qxb6603363a
