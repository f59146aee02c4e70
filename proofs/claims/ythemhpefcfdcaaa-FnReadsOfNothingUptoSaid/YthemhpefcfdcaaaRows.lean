/-
  No cell of these rows narrows 'for every input' (looked for: loops, veiled, ifaces, maps, wideKeys, modest, calm, conditions, laid).
  DERIVED. THE GIVEN ROWS OF THIS SEAT. 16 by the template 'for every input the law returns true; each argument reads behind the call as it read before'; 0 by the template 'total and deterministic' (their statements: YthemhpefcfdcaaaTotals.lean).
  GIVEN WITH THE SEED: the statements are not yours to turn. If you find one false, say at which input.
  Laid BY PROGRAM, IN A SANDBOX (cutbox-rows.mjs): the forced cells as the released guide's own fill.sh prints them over the translation c36594440252c7d5… (all of the seat's roots in one cut). By AI agents, Wed Nov 11 2026. No macro, syntax, notation, axiom, sorry.
-/
import Derived.Test.YthemhpefcfdcaaaChecked
import GoSem.Claim
import GoSem.ClaimJoined
import GoSem.ClaimMapViews
import Derived.JoinedTies
import Derived.KernelRfl
namespace Go.Proofs.Ythemhpefcfdcaaa
/- THE CELL 'sum', in the pinned program and in every row, IS THE sha256 OF THE DUMP (.gsa) THAT YthemhpefcfdcaaaProg.lean LOADS. Nothing in Lean hashes anything: it is a label: what it is worth is what the hold of that sum in a sandbox is worth. -/
noncomputable def Try.pinned : Pinned := { name := "ythemhpefcfdcaaa", sum := "c36594440252c7d58e008bec55371c210dc072c28727ba8f7edb3cf381e36e7c", checked := Try.checked }
namespace Rows
def none {H : Type} : Left H := { results := [], args := [] }

/-- 'laws.FnReadsOfNothing': WHATEVER THE INPUT: true; the input reads as it did. -/
def fnReadsOfNothingSpec : ChangeSpec := { name := "fnReadsOfNothing", fn := fun _ => fun
  | [d1, d2, d3, d4, d5, d6] => { results := [.lit (.bool true)], args := [d1, d2, d3, d4, d5, d6] }
  | _ => none }
def fnReadsOfNothingRow : OpenClaim := { program := "ythemhpefcfdcaaa", sum := "c36594440252c7d58e008bec55371c210dc072c28727ba8f7edb3cf381e36e7c", func := "loop.example/lib-g01436/laws.FnReadsOfNothing", spec := "fnReadsOfNothing", inPlace := ["crypto/internal/fips140/alias.AnyOverlap", "crypto/internal/fips140/subtle.xorBytes", "crypto/internal/fips140/sha3.keccakF1600", "crypto/internal/fips140.getIndicator", "crypto/internal/fips140.setIndicator"], apart := false }
def FnReadsOfNothingSaid : Prop := fnReadsOfNothingRow.holds Try.pinned (OpenSpec.ofChange fnReadsOfNothingSpec)

/-- ITS FALSE NEIGHBOUR: 'it returns false'. Refute it at one input. -/
def fnReadsOfNothingWrong : ChangeSpec := { name := "fnReadsOfNothing", fn := fun _ => fun
  | [d1, d2, d3, d4, d5, d6] => { results := [.lit (.bool false)], args := [d1, d2, d3, d4, d5, d6] }
  | _ => none }
def FnReadsOfNothingWrongFalsely : Prop := fnReadsOfNothingRow.holds Try.pinned (OpenSpec.ofChange fnReadsOfNothingWrong)

/-- 'laws.FnSqueezeCuts': WHATEVER THE INPUT: true; the input reads as it did. -/
def fnSqueezeCutsSpec : ChangeSpec := { name := "fnSqueezeCuts", fn := fun _ => fun
  | [d1, d2, d3, d4, d5, d6, d7] => { results := [.lit (.bool true)], args := [d1, d2, d3, d4, d5, d6, d7] }
  | _ => none }
def fnSqueezeCutsRow : OpenClaim := { program := "ythemhpefcfdcaaa", sum := "c36594440252c7d58e008bec55371c210dc072c28727ba8f7edb3cf381e36e7c", func := "loop.example/lib-g01436/laws.FnSqueezeCuts", spec := "fnSqueezeCuts", inPlace := ["crypto/internal/fips140/alias.AnyOverlap", "crypto/internal/fips140/subtle.xorBytes", "crypto/internal/fips140/sha3.keccakF1600", "crypto/internal/fips140.getIndicator", "crypto/internal/fips140.setIndicator"], apart := false }
def FnSqueezeCutsSaid : Prop := fnSqueezeCutsRow.holds Try.pinned (OpenSpec.ofChange fnSqueezeCutsSpec)

/-- ITS FALSE NEIGHBOUR: 'it returns false'. Refute it at one input. -/
def fnSqueezeCutsWrong : ChangeSpec := { name := "fnSqueezeCuts", fn := fun _ => fun
  | [d1, d2, d3, d4, d5, d6, d7] => { results := [.lit (.bool false)], args := [d1, d2, d3, d4, d5, d6, d7] }
  | _ => none }
def FnSqueezeCutsWrongFalsely : Prop := fnSqueezeCutsRow.holds Try.pinned (OpenSpec.ofChange fnSqueezeCutsWrong)

/-- 'laws.FnSqueezeStart': WHATEVER THE INPUT: true; the input reads as it did. -/
def fnSqueezeStartSpec : ChangeSpec := { name := "fnSqueezeStart", fn := fun _ => fun
  | [d1, d2, d3, d4, d5, d6] => { results := [.lit (.bool true)], args := [d1, d2, d3, d4, d5, d6] }
  | _ => none }
def fnSqueezeStartRow : OpenClaim := { program := "ythemhpefcfdcaaa", sum := "c36594440252c7d58e008bec55371c210dc072c28727ba8f7edb3cf381e36e7c", func := "loop.example/lib-g01436/laws.FnSqueezeStart", spec := "fnSqueezeStart", inPlace := ["crypto/internal/fips140/alias.AnyOverlap", "crypto/internal/fips140/subtle.xorBytes", "crypto/internal/fips140/sha3.keccakF1600", "crypto/internal/fips140.getIndicator", "crypto/internal/fips140.setIndicator"], apart := false }
def FnSqueezeStartSaid : Prop := fnSqueezeStartRow.holds Try.pinned (OpenSpec.ofChange fnSqueezeStartSpec)

/-- ITS FALSE NEIGHBOUR: 'it returns false'. Refute it at one input. -/
def fnSqueezeStartWrong : ChangeSpec := { name := "fnSqueezeStart", fn := fun _ => fun
  | [d1, d2, d3, d4, d5, d6] => { results := [.lit (.bool false)], args := [d1, d2, d3, d4, d5, d6] }
  | _ => none }
def FnSqueezeStartWrongFalsely : Prop := fnSqueezeStartRow.holds Try.pinned (OpenSpec.ofChange fnSqueezeStartWrong)

/-- 'laws.FnChainSplit': WHATEVER THE INPUT: true; the input reads as it did. -/
def fnChainSplitSpec : ChangeSpec := { name := "fnChainSplit", fn := fun _ => fun
  | [d1, d2, d3, d4, d5, d6, d7] => { results := [.lit (.bool true)], args := [d1, d2, d3, d4, d5, d6, d7] }
  | _ => none }
def fnChainSplitRow : OpenClaim := { program := "ythemhpefcfdcaaa", sum := "c36594440252c7d58e008bec55371c210dc072c28727ba8f7edb3cf381e36e7c", func := "loop.example/lib-g01436/laws.FnChainSplit", spec := "fnChainSplit", inPlace := ["crypto/internal/fips140/alias.AnyOverlap", "crypto/internal/fips140/subtle.xorBytes", "crypto/internal/fips140/sha3.keccakF1600", "crypto/internal/fips140.getIndicator", "crypto/internal/fips140.setIndicator"], apart := false }
def FnChainSplitSaid : Prop := fnChainSplitRow.holds Try.pinned (OpenSpec.ofChange fnChainSplitSpec)

/-- ITS FALSE NEIGHBOUR: 'it returns false'. Refute it at one input. -/
def fnChainSplitWrong : ChangeSpec := { name := "fnChainSplit", fn := fun _ => fun
  | [d1, d2, d3, d4, d5, d6, d7] => { results := [.lit (.bool false)], args := [d1, d2, d3, d4, d5, d6, d7] }
  | _ => none }
def FnChainSplitWrongFalsely : Prop := fnChainSplitRow.holds Try.pinned (OpenSpec.ofChange fnChainSplitWrong)

/-- 'laws.FnCipherCuts': WHATEVER THE INPUT: true; the input reads as it did. -/
def fnCipherCutsSpec : ChangeSpec := { name := "fnCipherCuts", fn := fun _ => fun
  | [d1, d2, d3, d4, d5, d6, d7] => { results := [.lit (.bool true)], args := [d1, d2, d3, d4, d5, d6, d7] }
  | _ => none }
def fnCipherCutsRow : OpenClaim := { program := "ythemhpefcfdcaaa", sum := "c36594440252c7d58e008bec55371c210dc072c28727ba8f7edb3cf381e36e7c", func := "loop.example/lib-g01436/laws.FnCipherCuts", spec := "fnCipherCuts", inPlace := ["crypto/internal/fips140/alias.AnyOverlap", "crypto/internal/fips140/subtle.xorBytes", "crypto/internal/fips140/sha3.keccakF1600", "crypto/internal/fips140.getIndicator", "crypto/internal/fips140.setIndicator"], apart := false }
def FnCipherCutsSaid : Prop := fnCipherCutsRow.holds Try.pinned (OpenSpec.ofChange fnCipherCutsSpec)

/-- ITS FALSE NEIGHBOUR: 'it returns false'. Refute it at one input. -/
def fnCipherCutsWrong : ChangeSpec := { name := "fnCipherCuts", fn := fun _ => fun
  | [d1, d2, d3, d4, d5, d6, d7] => { results := [.lit (.bool false)], args := [d1, d2, d3, d4, d5, d6, d7] }
  | _ => none }
def FnCipherCutsWrongFalsely : Prop := fnCipherCutsRow.holds Try.pinned (OpenSpec.ofChange fnCipherCutsWrong)

/-- 'laws.FnCipherLinear': WHATEVER THE INPUT: true; the input reads as it did. -/
def fnCipherLinearSpec : ChangeSpec := { name := "fnCipherLinear", fn := fun _ => fun
  | [d1, d2, d3, d4, d5, d6, d7] => { results := [.lit (.bool true)], args := [d1, d2, d3, d4, d5, d6, d7] }
  | _ => none }
def fnCipherLinearRow : OpenClaim := { program := "ythemhpefcfdcaaa", sum := "c36594440252c7d58e008bec55371c210dc072c28727ba8f7edb3cf381e36e7c", func := "loop.example/lib-g01436/laws.FnCipherLinear", spec := "fnCipherLinear", inPlace := ["crypto/internal/fips140/alias.AnyOverlap", "crypto/internal/fips140/subtle.xorBytes", "crypto/internal/fips140/sha3.keccakF1600", "crypto/internal/fips140.getIndicator", "crypto/internal/fips140.setIndicator"], apart := false }
def FnCipherLinearSaid : Prop := fnCipherLinearRow.holds Try.pinned (OpenSpec.ofChange fnCipherLinearSpec)

/-- ITS FALSE NEIGHBOUR: 'it returns false'. Refute it at one input. -/
def fnCipherLinearWrong : ChangeSpec := { name := "fnCipherLinear", fn := fun _ => fun
  | [d1, d2, d3, d4, d5, d6, d7] => { results := [.lit (.bool false)], args := [d1, d2, d3, d4, d5, d6, d7] }
  | _ => none }
def FnCipherLinearWrongFalsely : Prop := fnCipherLinearRow.holds Try.pinned (OpenSpec.ofChange fnCipherLinearWrong)

/-- 'laws.FnCipherStart': WHATEVER THE INPUT: true; the input reads as it did. -/
def fnCipherStartSpec : ChangeSpec := { name := "fnCipherStart", fn := fun _ => fun
  | [d1, d2, d3, d4, d5, d6, d7] => { results := [.lit (.bool true)], args := [d1, d2, d3, d4, d5, d6, d7] }
  | _ => none }
def fnCipherStartRow : OpenClaim := { program := "ythemhpefcfdcaaa", sum := "c36594440252c7d58e008bec55371c210dc072c28727ba8f7edb3cf381e36e7c", func := "loop.example/lib-g01436/laws.FnCipherStart", spec := "fnCipherStart", inPlace := ["crypto/internal/fips140/alias.AnyOverlap", "crypto/internal/fips140/subtle.xorBytes", "crypto/internal/fips140/sha3.keccakF1600", "crypto/internal/fips140.getIndicator", "crypto/internal/fips140.setIndicator"], apart := false }
def FnCipherStartSaid : Prop := fnCipherStartRow.holds Try.pinned (OpenSpec.ofChange fnCipherStartSpec)

/-- ITS FALSE NEIGHBOUR: 'it returns false'. Refute it at one input. -/
def fnCipherStartWrong : ChangeSpec := { name := "fnCipherStart", fn := fun _ => fun
  | [d1, d2, d3, d4, d5, d6, d7] => { results := [.lit (.bool false)], args := [d1, d2, d3, d4, d5, d6, d7] }
  | _ => none }
def FnCipherStartWrongFalsely : Prop := fnCipherStartRow.holds Try.pinned (OpenSpec.ofChange fnCipherStartWrong)

/-- 'laws.FnCipherTwice': WHATEVER THE INPUT: true; the input reads as it did. -/
def fnCipherTwiceSpec : ChangeSpec := { name := "fnCipherTwice", fn := fun _ => fun
  | [d1, d2, d3, d4, d5, d6, d7] => { results := [.lit (.bool true)], args := [d1, d2, d3, d4, d5, d6, d7] }
  | _ => none }
def fnCipherTwiceRow : OpenClaim := { program := "ythemhpefcfdcaaa", sum := "c36594440252c7d58e008bec55371c210dc072c28727ba8f7edb3cf381e36e7c", func := "loop.example/lib-g01436/laws.FnCipherTwice", spec := "fnCipherTwice", inPlace := ["crypto/internal/fips140/alias.AnyOverlap", "crypto/internal/fips140/subtle.xorBytes", "crypto/internal/fips140/sha3.keccakF1600", "crypto/internal/fips140.getIndicator", "crypto/internal/fips140.setIndicator"], apart := false }
def FnCipherTwiceSaid : Prop := fnCipherTwiceRow.holds Try.pinned (OpenSpec.ofChange fnCipherTwiceSpec)

/-- ITS FALSE NEIGHBOUR: 'it returns false'. Refute it at one input. -/
def fnCipherTwiceWrong : ChangeSpec := { name := "fnCipherTwice", fn := fun _ => fun
  | [d1, d2, d3, d4, d5, d6, d7] => { results := [.lit (.bool false)], args := [d1, d2, d3, d4, d5, d6, d7] }
  | _ => none }
def FnCipherTwiceWrongFalsely : Prop := fnCipherTwiceRow.holds Try.pinned (OpenSpec.ofChange fnCipherTwiceWrong)

/-- 'laws.FnChainStep': WHATEVER THE INPUT: true; the input reads as it did. -/
def fnChainStepSpec : ChangeSpec := { name := "fnChainStep", fn := fun _ => fun
  | [d1, d2, d3, d4, d5, d6, d7] => { results := [.lit (.bool true)], args := [d1, d2, d3, d4, d5, d6, d7] }
  | _ => none }
def fnChainStepRow : OpenClaim := { program := "ythemhpefcfdcaaa", sum := "c36594440252c7d58e008bec55371c210dc072c28727ba8f7edb3cf381e36e7c", func := "loop.example/lib-g01436/laws.FnChainStep", spec := "fnChainStep", inPlace := ["crypto/internal/fips140/alias.AnyOverlap", "crypto/internal/fips140/subtle.xorBytes", "crypto/internal/fips140/sha3.keccakF1600", "crypto/internal/fips140.getIndicator", "crypto/internal/fips140.setIndicator"], apart := false }
def FnChainStepSaid : Prop := fnChainStepRow.holds Try.pinned (OpenSpec.ofChange fnChainStepSpec)

/-- ITS FALSE NEIGHBOUR: 'it returns false'. Refute it at one input. -/
def fnChainStepWrong : ChangeSpec := { name := "fnChainStep", fn := fun _ => fun
  | [d1, d2, d3, d4, d5, d6, d7] => { results := [.lit (.bool false)], args := [d1, d2, d3, d4, d5, d6, d7] }
  | _ => none }
def FnChainStepWrongFalsely : Prop := fnChainStepRow.holds Try.pinned (OpenSpec.ofChange fnChainStepWrong)

/-- 'laws.FnCipherOutput': WHATEVER THE INPUT: true; the input reads as it did. -/
def fnCipherOutputSpec : ChangeSpec := { name := "fnCipherOutput", fn := fun _ => fun
  | [d1, d2, d3, d4, d5, d6] => { results := [.lit (.bool true)], args := [d1, d2, d3, d4, d5, d6] }
  | _ => none }
def fnCipherOutputRow : OpenClaim := { program := "ythemhpefcfdcaaa", sum := "c36594440252c7d58e008bec55371c210dc072c28727ba8f7edb3cf381e36e7c", func := "loop.example/lib-g01436/laws.FnCipherOutput", spec := "fnCipherOutput", inPlace := ["crypto/internal/fips140/alias.AnyOverlap", "crypto/internal/fips140/subtle.xorBytes", "crypto/internal/fips140/sha3.keccakF1600", "crypto/internal/fips140.getIndicator", "crypto/internal/fips140.setIndicator"], apart := false }
def FnCipherOutputSaid : Prop := fnCipherOutputRow.holds Try.pinned (OpenSpec.ofChange fnCipherOutputSpec)

/-- ITS FALSE NEIGHBOUR: 'it returns false'. Refute it at one input. -/
def fnCipherOutputWrong : ChangeSpec := { name := "fnCipherOutput", fn := fun _ => fun
  | [d1, d2, d3, d4, d5, d6] => { results := [.lit (.bool false)], args := [d1, d2, d3, d4, d5, d6] }
  | _ => none }
def FnCipherOutputWrongFalsely : Prop := fnCipherOutputRow.holds Try.pinned (OpenSpec.ofChange fnCipherOutputWrong)

/-- 'laws.FnStatesSame': WHATEVER THE INPUT: true; the input reads as it did. -/
def fnStatesSameSpec : ChangeSpec := { name := "fnStatesSame", fn := fun _ => fun
  | [d1, d2, d3, d4, d5, d6, d7] => { results := [.lit (.bool true)], args := [d1, d2, d3, d4, d5, d6, d7] }
  | _ => none }
def fnStatesSameRow : OpenClaim := { program := "ythemhpefcfdcaaa", sum := "c36594440252c7d58e008bec55371c210dc072c28727ba8f7edb3cf381e36e7c", func := "loop.example/lib-g01436/laws.FnStatesSame", spec := "fnStatesSame", inPlace := ["crypto/internal/fips140/alias.AnyOverlap", "crypto/internal/fips140/subtle.xorBytes", "crypto/internal/fips140/sha3.keccakF1600", "crypto/internal/fips140.getIndicator", "crypto/internal/fips140.setIndicator"], apart := false }
def FnStatesSameSaid : Prop := fnStatesSameRow.holds Try.pinned (OpenSpec.ofChange fnStatesSameSpec)

/-- ITS FALSE NEIGHBOUR: 'it returns false'. Refute it at one input. -/
def fnStatesSameWrong : ChangeSpec := { name := "fnStatesSame", fn := fun _ => fun
  | [d1, d2, d3, d4, d5, d6, d7] => { results := [.lit (.bool false)], args := [d1, d2, d3, d4, d5, d6, d7] }
  | _ => none }
def FnStatesSameWrongFalsely : Prop := fnStatesSameRow.holds Try.pinned (OpenSpec.ofChange fnStatesSameWrong)

/-- 'laws.FnStatesSize': WHATEVER THE INPUT: true; the input reads as it did. -/
def fnStatesSizeSpec : ChangeSpec := { name := "fnStatesSize", fn := fun _ => fun
  | [d1, d2, d3, d4, d5] => { results := [.lit (.bool true)], args := [d1, d2, d3, d4, d5] }
  | _ => none }
def fnStatesSizeRow : OpenClaim := { program := "ythemhpefcfdcaaa", sum := "c36594440252c7d58e008bec55371c210dc072c28727ba8f7edb3cf381e36e7c", func := "loop.example/lib-g01436/laws.FnStatesSize", spec := "fnStatesSize", inPlace := ["crypto/internal/fips140/alias.AnyOverlap", "crypto/internal/fips140/subtle.xorBytes", "crypto/internal/fips140/sha3.keccakF1600", "crypto/internal/fips140.getIndicator", "crypto/internal/fips140.setIndicator"], apart := false }
def FnStatesSizeSaid : Prop := fnStatesSizeRow.holds Try.pinned (OpenSpec.ofChange fnStatesSizeSpec)

/-- ITS FALSE NEIGHBOUR: 'it returns false'. Refute it at one input. -/
def fnStatesSizeWrong : ChangeSpec := { name := "fnStatesSize", fn := fun _ => fun
  | [d1, d2, d3, d4, d5] => { results := [.lit (.bool false)], args := [d1, d2, d3, d4, d5] }
  | _ => none }
def FnStatesSizeWrongFalsely : Prop := fnStatesSizeRow.holds Try.pinned (OpenSpec.ofChange fnStatesSizeWrong)

/-- 'laws.FnGoOnPanics': WHATEVER THE INPUT: true; the input reads as it did. -/
def fnGoOnPanicsSpec : ChangeSpec := { name := "fnGoOnPanics", fn := fun _ => fun
  | [d1, d2, d3, d4, d5, d6] => { results := [.lit (.bool true)], args := [d1, d2, d3, d4, d5, d6] }
  | _ => none }
def fnGoOnPanicsRow : OpenClaim := { program := "ythemhpefcfdcaaa", sum := "c36594440252c7d58e008bec55371c210dc072c28727ba8f7edb3cf381e36e7c", func := "loop.example/lib-g01436/laws.FnGoOnPanics", spec := "fnGoOnPanics", inPlace := ["crypto/internal/fips140/alias.AnyOverlap", "crypto/internal/fips140/subtle.xorBytes", "crypto/internal/fips140/sha3.keccakF1600", "crypto/internal/fips140.getIndicator", "crypto/internal/fips140.setIndicator"], unfollowed := true, recurses := true, apart := false }
def FnGoOnPanicsSaid : Prop := fnGoOnPanicsRow.holds Try.pinned (OpenSpec.ofChange fnGoOnPanicsSpec)

/-- ITS FALSE NEIGHBOUR: 'it returns false'. Refute it at one input. -/
def fnGoOnPanicsWrong : ChangeSpec := { name := "fnGoOnPanics", fn := fun _ => fun
  | [d1, d2, d3, d4, d5, d6] => { results := [.lit (.bool false)], args := [d1, d2, d3, d4, d5, d6] }
  | _ => none }
def FnGoOnPanicsWrongFalsely : Prop := fnGoOnPanicsRow.holds Try.pinned (OpenSpec.ofChange fnGoOnPanicsWrong)

/-- 'laws.FnGoOnEach': WHATEVER THE INPUT: true; the input reads as it did. -/
def fnGoOnEachSpec : ChangeSpec := { name := "fnGoOnEach", fn := fun _ => fun
  | [d1, d2, d3, d4, d5] => { results := [.lit (.bool true)], args := [d1, d2, d3, d4, d5] }
  | _ => none }
def fnGoOnEachRow : OpenClaim := { program := "ythemhpefcfdcaaa", sum := "c36594440252c7d58e008bec55371c210dc072c28727ba8f7edb3cf381e36e7c", func := "loop.example/lib-g01436/laws.FnGoOnEach", spec := "fnGoOnEach", inPlace := ["crypto/internal/fips140/alias.AnyOverlap", "crypto/internal/fips140/subtle.xorBytes", "crypto/internal/fips140/sha3.keccakF1600", "crypto/internal/fips140.getIndicator", "crypto/internal/fips140.setIndicator"], unfollowed := true, recurses := true, apart := false }
def FnGoOnEachSaid : Prop := fnGoOnEachRow.holds Try.pinned (OpenSpec.ofChange fnGoOnEachSpec)

/-- ITS FALSE NEIGHBOUR: 'it returns false'. Refute it at one input. -/
def fnGoOnEachWrong : ChangeSpec := { name := "fnGoOnEach", fn := fun _ => fun
  | [d1, d2, d3, d4, d5] => { results := [.lit (.bool false)], args := [d1, d2, d3, d4, d5] }
  | _ => none }
def FnGoOnEachWrongFalsely : Prop := fnGoOnEachRow.holds Try.pinned (OpenSpec.ofChange fnGoOnEachWrong)

/-- 'laws.FnGoOnOther': WHATEVER THE INPUT: true; the input reads as it did. -/
def fnGoOnOtherSpec : ChangeSpec := { name := "fnGoOnOther", fn := fun _ => fun
  | [d1, d2, d3, d4, d5, d6, d7] => { results := [.lit (.bool true)], args := [d1, d2, d3, d4, d5, d6, d7] }
  | _ => none }
def fnGoOnOtherRow : OpenClaim := { program := "ythemhpefcfdcaaa", sum := "c36594440252c7d58e008bec55371c210dc072c28727ba8f7edb3cf381e36e7c", func := "loop.example/lib-g01436/laws.FnGoOnOther", spec := "fnGoOnOther", inPlace := ["crypto/internal/fips140/alias.AnyOverlap", "crypto/internal/fips140/subtle.xorBytes", "crypto/internal/fips140/sha3.keccakF1600", "crypto/internal/fips140.getIndicator", "crypto/internal/fips140.setIndicator"], unfollowed := true, recurses := true, apart := false }
def FnGoOnOtherSaid : Prop := fnGoOnOtherRow.holds Try.pinned (OpenSpec.ofChange fnGoOnOtherSpec)

/-- ITS FALSE NEIGHBOUR: 'it returns false'. Refute it at one input. -/
def fnGoOnOtherWrong : ChangeSpec := { name := "fnGoOnOther", fn := fun _ => fun
  | [d1, d2, d3, d4, d5, d6, d7] => { results := [.lit (.bool false)], args := [d1, d2, d3, d4, d5, d6, d7] }
  | _ => none }
def FnGoOnOtherWrongFalsely : Prop := fnGoOnOtherRow.holds Try.pinned (OpenSpec.ofChange fnGoOnOtherWrong)

/-- 'laws.FnCipherGoesOn': WHATEVER THE INPUT: true; the input reads as it did. -/
def fnCipherGoesOnSpec : ChangeSpec := { name := "fnCipherGoesOn", fn := fun _ => fun
  | [d1, d2, d3, d4, d5, d6] => { results := [.lit (.bool true)], args := [d1, d2, d3, d4, d5, d6] }
  | _ => none }
def fnCipherGoesOnRow : OpenClaim := { program := "ythemhpefcfdcaaa", sum := "c36594440252c7d58e008bec55371c210dc072c28727ba8f7edb3cf381e36e7c", func := "loop.example/lib-g01436/laws.FnCipherGoesOn", spec := "fnCipherGoesOn", inPlace := ["crypto/internal/fips140/alias.AnyOverlap", "crypto/internal/fips140/subtle.xorBytes", "crypto/internal/fips140/sha3.keccakF1600", "crypto/internal/fips140.getIndicator", "crypto/internal/fips140.setIndicator"], unfollowed := true, recurses := true, apart := false }
def FnCipherGoesOnSaid : Prop := fnCipherGoesOnRow.holds Try.pinned (OpenSpec.ofChange fnCipherGoesOnSpec)

/-- ITS FALSE NEIGHBOUR: 'it returns false'. Refute it at one input. -/
def fnCipherGoesOnWrong : ChangeSpec := { name := "fnCipherGoesOn", fn := fun _ => fun
  | [d1, d2, d3, d4, d5, d6] => { results := [.lit (.bool false)], args := [d1, d2, d3, d4, d5, d6] }
  | _ => none }
def FnCipherGoesOnWrongFalsely : Prop := fnCipherGoesOnRow.holds Try.pinned (OpenSpec.ofChange fnCipherGoesOnWrong)

/- THE SECOND FORM. 'bulk': how many values and letters a reading holds, each counted each time it is reached (what is shared counts as often as it is met; a slice's spare places count too). A statement '..UptoSaid' is the law's where the arguments, and the package variables that the reading takes, are together of bulk at most 1048576: NARROWER than '..Said'. Prove '..Said' where nothing that the law and all that it calls make is longer than what came in: it says more and counts as full. Else prove '..UptoSaid'. A law counts once. -/
mutual
def uptoBulk {H : Type} : DataW H → Nat
  | .lit (.string bytes) => bytes.length + 1
  | .lit _ => 1
  | .nil => 1
  | .ptr d => uptoBulk d + 1
  | .slice elems spare => uptoBulkAll elems + uptoBulkAll spare + 1
  | .agg parts => uptoBulkAll parts + 1
  | .iface _ d => uptoBulk d + 1
  | .map entries => uptoBulkEntries entries + 1
  | .held _ => 1
def uptoBulkAll {H : Type} : List (DataW H) → Nat
  | [] => 0
  | d :: r => uptoBulk d + uptoBulkAll r
def uptoBulkEntries {H : Type} : List (Lit × DataW H) → Nat
  | [] => 0
  | x :: r => uptoBulkEntry x + uptoBulkEntries r
def uptoBulkEntry {H : Type} : Lit × DataW H → Nat
  | (.string bytes, d) => bytes.length + uptoBulk d + 1
  | (_, d) => uptoBulk d + 1
 end
def uptoSmall : (H : Type) → List (DataW H) → Bool := fun _ ds => decide (uptoBulkAll ds ≤ 1048576)
def OpenSpec.upto (s : _root_.Go.ChangeSpec) : _root_.Go.OpenSpec := { _root_.Go.OpenSpec.ofChange s with cond := some uptoSmall }

/-- 'laws.FnReadsOfNothing', WHERE WHAT IT READS IS OF BULK AT MOST 1048576: true; the input reads as it did. -/
def fnReadsOfNothingUptoRow : OpenClaim := { program := "ythemhpefcfdcaaa", sum := "c36594440252c7d58e008bec55371c210dc072c28727ba8f7edb3cf381e36e7c", func := "loop.example/lib-g01436/laws.FnReadsOfNothing", spec := "fnReadsOfNothing", inPlace := ["crypto/internal/fips140/alias.AnyOverlap", "crypto/internal/fips140/subtle.xorBytes", "crypto/internal/fips140/sha3.keccakF1600", "crypto/internal/fips140.getIndicator", "crypto/internal/fips140.setIndicator"], apart := false, narrowed := true }
def FnReadsOfNothingUptoSaid : Prop := fnReadsOfNothingUptoRow.holds Try.pinned (OpenSpec.upto fnReadsOfNothingSpec)

/-- 'laws.FnSqueezeCuts', WHERE WHAT IT READS IS OF BULK AT MOST 1048576: true; the input reads as it did. -/
def fnSqueezeCutsUptoRow : OpenClaim := { program := "ythemhpefcfdcaaa", sum := "c36594440252c7d58e008bec55371c210dc072c28727ba8f7edb3cf381e36e7c", func := "loop.example/lib-g01436/laws.FnSqueezeCuts", spec := "fnSqueezeCuts", inPlace := ["crypto/internal/fips140/alias.AnyOverlap", "crypto/internal/fips140/subtle.xorBytes", "crypto/internal/fips140/sha3.keccakF1600", "crypto/internal/fips140.getIndicator", "crypto/internal/fips140.setIndicator"], apart := false, narrowed := true }
def FnSqueezeCutsUptoSaid : Prop := fnSqueezeCutsUptoRow.holds Try.pinned (OpenSpec.upto fnSqueezeCutsSpec)

/-- 'laws.FnSqueezeStart', WHERE WHAT IT READS IS OF BULK AT MOST 1048576: true; the input reads as it did. -/
def fnSqueezeStartUptoRow : OpenClaim := { program := "ythemhpefcfdcaaa", sum := "c36594440252c7d58e008bec55371c210dc072c28727ba8f7edb3cf381e36e7c", func := "loop.example/lib-g01436/laws.FnSqueezeStart", spec := "fnSqueezeStart", inPlace := ["crypto/internal/fips140/alias.AnyOverlap", "crypto/internal/fips140/subtle.xorBytes", "crypto/internal/fips140/sha3.keccakF1600", "crypto/internal/fips140.getIndicator", "crypto/internal/fips140.setIndicator"], apart := false, narrowed := true }
def FnSqueezeStartUptoSaid : Prop := fnSqueezeStartUptoRow.holds Try.pinned (OpenSpec.upto fnSqueezeStartSpec)

/-- 'laws.FnChainSplit', WHERE WHAT IT READS IS OF BULK AT MOST 1048576: true; the input reads as it did. -/
def fnChainSplitUptoRow : OpenClaim := { program := "ythemhpefcfdcaaa", sum := "c36594440252c7d58e008bec55371c210dc072c28727ba8f7edb3cf381e36e7c", func := "loop.example/lib-g01436/laws.FnChainSplit", spec := "fnChainSplit", inPlace := ["crypto/internal/fips140/alias.AnyOverlap", "crypto/internal/fips140/subtle.xorBytes", "crypto/internal/fips140/sha3.keccakF1600", "crypto/internal/fips140.getIndicator", "crypto/internal/fips140.setIndicator"], apart := false, narrowed := true }
def FnChainSplitUptoSaid : Prop := fnChainSplitUptoRow.holds Try.pinned (OpenSpec.upto fnChainSplitSpec)

/-- 'laws.FnCipherCuts', WHERE WHAT IT READS IS OF BULK AT MOST 1048576: true; the input reads as it did. -/
def fnCipherCutsUptoRow : OpenClaim := { program := "ythemhpefcfdcaaa", sum := "c36594440252c7d58e008bec55371c210dc072c28727ba8f7edb3cf381e36e7c", func := "loop.example/lib-g01436/laws.FnCipherCuts", spec := "fnCipherCuts", inPlace := ["crypto/internal/fips140/alias.AnyOverlap", "crypto/internal/fips140/subtle.xorBytes", "crypto/internal/fips140/sha3.keccakF1600", "crypto/internal/fips140.getIndicator", "crypto/internal/fips140.setIndicator"], apart := false, narrowed := true }
def FnCipherCutsUptoSaid : Prop := fnCipherCutsUptoRow.holds Try.pinned (OpenSpec.upto fnCipherCutsSpec)

/-- 'laws.FnCipherLinear', WHERE WHAT IT READS IS OF BULK AT MOST 1048576: true; the input reads as it did. -/
def fnCipherLinearUptoRow : OpenClaim := { program := "ythemhpefcfdcaaa", sum := "c36594440252c7d58e008bec55371c210dc072c28727ba8f7edb3cf381e36e7c", func := "loop.example/lib-g01436/laws.FnCipherLinear", spec := "fnCipherLinear", inPlace := ["crypto/internal/fips140/alias.AnyOverlap", "crypto/internal/fips140/subtle.xorBytes", "crypto/internal/fips140/sha3.keccakF1600", "crypto/internal/fips140.getIndicator", "crypto/internal/fips140.setIndicator"], apart := false, narrowed := true }
def FnCipherLinearUptoSaid : Prop := fnCipherLinearUptoRow.holds Try.pinned (OpenSpec.upto fnCipherLinearSpec)

/-- 'laws.FnCipherStart', WHERE WHAT IT READS IS OF BULK AT MOST 1048576: true; the input reads as it did. -/
def fnCipherStartUptoRow : OpenClaim := { program := "ythemhpefcfdcaaa", sum := "c36594440252c7d58e008bec55371c210dc072c28727ba8f7edb3cf381e36e7c", func := "loop.example/lib-g01436/laws.FnCipherStart", spec := "fnCipherStart", inPlace := ["crypto/internal/fips140/alias.AnyOverlap", "crypto/internal/fips140/subtle.xorBytes", "crypto/internal/fips140/sha3.keccakF1600", "crypto/internal/fips140.getIndicator", "crypto/internal/fips140.setIndicator"], apart := false, narrowed := true }
def FnCipherStartUptoSaid : Prop := fnCipherStartUptoRow.holds Try.pinned (OpenSpec.upto fnCipherStartSpec)

/-- 'laws.FnCipherTwice', WHERE WHAT IT READS IS OF BULK AT MOST 1048576: true; the input reads as it did. -/
def fnCipherTwiceUptoRow : OpenClaim := { program := "ythemhpefcfdcaaa", sum := "c36594440252c7d58e008bec55371c210dc072c28727ba8f7edb3cf381e36e7c", func := "loop.example/lib-g01436/laws.FnCipherTwice", spec := "fnCipherTwice", inPlace := ["crypto/internal/fips140/alias.AnyOverlap", "crypto/internal/fips140/subtle.xorBytes", "crypto/internal/fips140/sha3.keccakF1600", "crypto/internal/fips140.getIndicator", "crypto/internal/fips140.setIndicator"], apart := false, narrowed := true }
def FnCipherTwiceUptoSaid : Prop := fnCipherTwiceUptoRow.holds Try.pinned (OpenSpec.upto fnCipherTwiceSpec)

/-- 'laws.FnChainStep', WHERE WHAT IT READS IS OF BULK AT MOST 1048576: true; the input reads as it did. -/
def fnChainStepUptoRow : OpenClaim := { program := "ythemhpefcfdcaaa", sum := "c36594440252c7d58e008bec55371c210dc072c28727ba8f7edb3cf381e36e7c", func := "loop.example/lib-g01436/laws.FnChainStep", spec := "fnChainStep", inPlace := ["crypto/internal/fips140/alias.AnyOverlap", "crypto/internal/fips140/subtle.xorBytes", "crypto/internal/fips140/sha3.keccakF1600", "crypto/internal/fips140.getIndicator", "crypto/internal/fips140.setIndicator"], apart := false, narrowed := true }
def FnChainStepUptoSaid : Prop := fnChainStepUptoRow.holds Try.pinned (OpenSpec.upto fnChainStepSpec)

/-- 'laws.FnCipherOutput', WHERE WHAT IT READS IS OF BULK AT MOST 1048576: true; the input reads as it did. -/
def fnCipherOutputUptoRow : OpenClaim := { program := "ythemhpefcfdcaaa", sum := "c36594440252c7d58e008bec55371c210dc072c28727ba8f7edb3cf381e36e7c", func := "loop.example/lib-g01436/laws.FnCipherOutput", spec := "fnCipherOutput", inPlace := ["crypto/internal/fips140/alias.AnyOverlap", "crypto/internal/fips140/subtle.xorBytes", "crypto/internal/fips140/sha3.keccakF1600", "crypto/internal/fips140.getIndicator", "crypto/internal/fips140.setIndicator"], apart := false, narrowed := true }
def FnCipherOutputUptoSaid : Prop := fnCipherOutputUptoRow.holds Try.pinned (OpenSpec.upto fnCipherOutputSpec)

/-- 'laws.FnStatesSame', WHERE WHAT IT READS IS OF BULK AT MOST 1048576: true; the input reads as it did. -/
def fnStatesSameUptoRow : OpenClaim := { program := "ythemhpefcfdcaaa", sum := "c36594440252c7d58e008bec55371c210dc072c28727ba8f7edb3cf381e36e7c", func := "loop.example/lib-g01436/laws.FnStatesSame", spec := "fnStatesSame", inPlace := ["crypto/internal/fips140/alias.AnyOverlap", "crypto/internal/fips140/subtle.xorBytes", "crypto/internal/fips140/sha3.keccakF1600", "crypto/internal/fips140.getIndicator", "crypto/internal/fips140.setIndicator"], apart := false, narrowed := true }
def FnStatesSameUptoSaid : Prop := fnStatesSameUptoRow.holds Try.pinned (OpenSpec.upto fnStatesSameSpec)

/-- 'laws.FnStatesSize', WHERE WHAT IT READS IS OF BULK AT MOST 1048576: true; the input reads as it did. -/
def fnStatesSizeUptoRow : OpenClaim := { program := "ythemhpefcfdcaaa", sum := "c36594440252c7d58e008bec55371c210dc072c28727ba8f7edb3cf381e36e7c", func := "loop.example/lib-g01436/laws.FnStatesSize", spec := "fnStatesSize", inPlace := ["crypto/internal/fips140/alias.AnyOverlap", "crypto/internal/fips140/subtle.xorBytes", "crypto/internal/fips140/sha3.keccakF1600", "crypto/internal/fips140.getIndicator", "crypto/internal/fips140.setIndicator"], apart := false, narrowed := true }
def FnStatesSizeUptoSaid : Prop := fnStatesSizeUptoRow.holds Try.pinned (OpenSpec.upto fnStatesSizeSpec)

/-- 'laws.FnGoOnPanics', WHERE WHAT IT READS IS OF BULK AT MOST 1048576: true; the input reads as it did. -/
def fnGoOnPanicsUptoRow : OpenClaim := { program := "ythemhpefcfdcaaa", sum := "c36594440252c7d58e008bec55371c210dc072c28727ba8f7edb3cf381e36e7c", func := "loop.example/lib-g01436/laws.FnGoOnPanics", spec := "fnGoOnPanics", inPlace := ["crypto/internal/fips140/alias.AnyOverlap", "crypto/internal/fips140/subtle.xorBytes", "crypto/internal/fips140/sha3.keccakF1600", "crypto/internal/fips140.getIndicator", "crypto/internal/fips140.setIndicator"], unfollowed := true, recurses := true, apart := false, narrowed := true }
def FnGoOnPanicsUptoSaid : Prop := fnGoOnPanicsUptoRow.holds Try.pinned (OpenSpec.upto fnGoOnPanicsSpec)

/-- 'laws.FnGoOnEach', WHERE WHAT IT READS IS OF BULK AT MOST 1048576: true; the input reads as it did. -/
def fnGoOnEachUptoRow : OpenClaim := { program := "ythemhpefcfdcaaa", sum := "c36594440252c7d58e008bec55371c210dc072c28727ba8f7edb3cf381e36e7c", func := "loop.example/lib-g01436/laws.FnGoOnEach", spec := "fnGoOnEach", inPlace := ["crypto/internal/fips140/alias.AnyOverlap", "crypto/internal/fips140/subtle.xorBytes", "crypto/internal/fips140/sha3.keccakF1600", "crypto/internal/fips140.getIndicator", "crypto/internal/fips140.setIndicator"], unfollowed := true, recurses := true, apart := false, narrowed := true }
def FnGoOnEachUptoSaid : Prop := fnGoOnEachUptoRow.holds Try.pinned (OpenSpec.upto fnGoOnEachSpec)

/-- 'laws.FnGoOnOther', WHERE WHAT IT READS IS OF BULK AT MOST 1048576: true; the input reads as it did. -/
def fnGoOnOtherUptoRow : OpenClaim := { program := "ythemhpefcfdcaaa", sum := "c36594440252c7d58e008bec55371c210dc072c28727ba8f7edb3cf381e36e7c", func := "loop.example/lib-g01436/laws.FnGoOnOther", spec := "fnGoOnOther", inPlace := ["crypto/internal/fips140/alias.AnyOverlap", "crypto/internal/fips140/subtle.xorBytes", "crypto/internal/fips140/sha3.keccakF1600", "crypto/internal/fips140.getIndicator", "crypto/internal/fips140.setIndicator"], unfollowed := true, recurses := true, apart := false, narrowed := true }
def FnGoOnOtherUptoSaid : Prop := fnGoOnOtherUptoRow.holds Try.pinned (OpenSpec.upto fnGoOnOtherSpec)

/-- 'laws.FnCipherGoesOn', WHERE WHAT IT READS IS OF BULK AT MOST 1048576: true; the input reads as it did. -/
def fnCipherGoesOnUptoRow : OpenClaim := { program := "ythemhpefcfdcaaa", sum := "c36594440252c7d58e008bec55371c210dc072c28727ba8f7edb3cf381e36e7c", func := "loop.example/lib-g01436/laws.FnCipherGoesOn", spec := "fnCipherGoesOn", inPlace := ["crypto/internal/fips140/alias.AnyOverlap", "crypto/internal/fips140/subtle.xorBytes", "crypto/internal/fips140/sha3.keccakF1600", "crypto/internal/fips140.getIndicator", "crypto/internal/fips140.setIndicator"], unfollowed := true, recurses := true, apart := false, narrowed := true }
def FnCipherGoesOnUptoSaid : Prop := fnCipherGoesOnUptoRow.holds Try.pinned (OpenSpec.upto fnCipherGoesOnSpec)

end Rows
end Go.Proofs.Ythemhpefcfdcaaa
