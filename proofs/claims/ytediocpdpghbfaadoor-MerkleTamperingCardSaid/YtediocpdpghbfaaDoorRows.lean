/-
  NARROWER THAN 'FOR EVERY INPUT', by the rows' own cells (each row's printed sentence says how): Sha256Sum: laid · Sha256Lengths: laid · Sha256Compress: laid · Sha256Hash: laid · Sha256Pad: laid · Sha256Blocks: laid · Sha256Clone: laid · Sha256Text: laid · MerkleHashes: laid · MerkleRoots: laid · MerkleProofs: laid · MerkleVerify: laid · MerkleConsistency: laid · MerkleVerifyConsistency: laid · MerkleTrees: laid · MerkleTampering: laid.
  DERIVED. THE GIVEN ROWS OF THIS SEAT. 16 by the template 'for every input the law returns true; each argument reads behind the call as it read before'; 0 by the template 'total and deterministic' (their statements: YtediocpdpghbfaaDoorTotals.lean).
  GIVEN WITH THE SEED: the statements are not yours to turn. If you find one false, say at which input.
  Laid BY PROGRAM, IN A SANDBOX (cutbox-rows.mjs): the forced cells as the released guide's own fill.sh prints them over the translation 99975a271b0452a3… (all of the seat's roots in one cut). By AI agents, Wed Nov 11 2026. No macro, syntax, notation, axiom, sorry.
-/
import Derived.Test.YtediocpdpghbfaaDoorChecked
import GoSem.Claim
import GoSem.ClaimJoined
import GoSem.ClaimMapViews
import Derived.JoinedTies
import Derived.KernelRfl
namespace Go.Proofs.YtediocpdpghbfaaDoor
/- THE CELL 'sum', in the pinned program and in every row, IS THE sha256 OF THE DUMP (.gsa) THAT YtediocpdpghbfaaDoorProg.lean LOADS. Nothing in Lean hashes anything: it is a label: what it is worth is what the hold of that sum in a sandbox is worth. -/
noncomputable def Tryd.pinned : Pinned := { name := "ytediocpdpghbfaadoor", sum := "99975a271b0452a3f5aee8e8e1e0de896408e032536a710911c01c6d276e83d6", checked := Tryd.checked }
namespace Rows
def none {H : Type} : Left H := { results := [], args := [] }

/- WHAT THE LISTED PACKAGE-LEVEL VARIABLES READ AS WHEN THE CALL BEGINS. Each datum BY PROGRAM (the guide's laid-datum.mjs) off the statement by which the dump's own 'gosem.cut.vars' lays the variable. In a bare row this is a premise. The card (YtediocpdpghbfaaDoorCards.lean) ties it to the program's text. -/
def laid_giro_sha256_constants {H : Type} : DataW H := .agg [.lit (.int .u32 1116352408), .lit (.int .u32 1899447441), .lit (.int .u32 3049323471), .lit (.int .u32 3921009573), .lit (.int .u32 961987163), .lit (.int .u32 1508970993), .lit (.int .u32 2453635748), .lit (.int .u32 2870763221), .lit (.int .u32 3624381080), .lit (.int .u32 310598401), .lit (.int .u32 607225278), .lit (.int .u32 1426881987), .lit (.int .u32 1925078388), .lit (.int .u32 2162078206), .lit (.int .u32 2614888103), .lit (.int .u32 3248222580), .lit (.int .u32 3835390401), .lit (.int .u32 4022224774), .lit (.int .u32 264347078), .lit (.int .u32 604807628), .lit (.int .u32 770255983), .lit (.int .u32 1249150122), .lit (.int .u32 1555081692), .lit (.int .u32 1996064986), .lit (.int .u32 2554220882), .lit (.int .u32 2821834349), .lit (.int .u32 2952996808), .lit (.int .u32 3210313671), .lit (.int .u32 3336571891), .lit (.int .u32 3584528711), .lit (.int .u32 113926993), .lit (.int .u32 338241895), .lit (.int .u32 666307205), .lit (.int .u32 773529912), .lit (.int .u32 1294757372), .lit (.int .u32 1396182291), .lit (.int .u32 1695183700), .lit (.int .u32 1986661051), .lit (.int .u32 2177026350), .lit (.int .u32 2456956037), .lit (.int .u32 2730485921), .lit (.int .u32 2820302411), .lit (.int .u32 3259730800), .lit (.int .u32 3345764771), .lit (.int .u32 3516065817), .lit (.int .u32 3600352804), .lit (.int .u32 4094571909), .lit (.int .u32 275423344), .lit (.int .u32 430227734), .lit (.int .u32 506948616), .lit (.int .u32 659060556), .lit (.int .u32 883997877), .lit (.int .u32 958139571), .lit (.int .u32 1322822218), .lit (.int .u32 1537002063), .lit (.int .u32 1747873779), .lit (.int .u32 1955562222), .lit (.int .u32 2024104815), .lit (.int .u32 2227730452), .lit (.int .u32 2361852424), .lit (.int .u32 2428436474), .lit (.int .u32 2756734187), .lit (.int .u32 3204031479), .lit (.int .u32 3329325298)]
def laid_giro_sha256_initial {H : Type} : DataW H := .agg [.lit (.int .u32 1779033703), .lit (.int .u32 3144134277), .lit (.int .u32 1013904242), .lit (.int .u32 2773480762), .lit (.int .u32 1359893119), .lit (.int .u32 2600822924), .lit (.int .u32 528734635), .lit (.int .u32 1541459225)]

/-- 'girolaw06.Sha256Sum': WHATEVER THE INPUT: true; the input reads as it did. -/
def sha256SumSpec : ChangeSpec := { name := "sha256Sum", fn := fun _ => fun
  | [d] => { results := [.lit (.bool true)], args := [d] }
  | _ => none }
def sha256SumRow : OpenClaim := { program := "ytediocpdpghbfaadoor", sum := "99975a271b0452a3f5aee8e8e1e0de896408e032536a710911c01c6d276e83d6", func := "giro/girolaw06.Sha256Sum", spec := "sha256Sum", unfollowed := true, recurses := true, named := ["giro/sha256.initial", "giro/sha256.constants"], apart := false, laid := [("giro/sha256.constants", laid_giro_sha256_constants), ("giro/sha256.initial", laid_giro_sha256_initial)] }
def Sha256SumSaid : Prop := sha256SumRow.holds Tryd.pinned (OpenSpec.ofChange sha256SumSpec)

/-- ITS FALSE NEIGHBOUR: 'it returns false'. Refute it at one input. -/
def sha256SumWrong : ChangeSpec := { name := "sha256Sum", fn := fun _ => fun
  | [d] => { results := [.lit (.bool false)], args := [d] }
  | _ => none }
def Sha256SumWrongFalsely : Prop := sha256SumRow.holds Tryd.pinned (OpenSpec.ofChange sha256SumWrong)

/-- 'girolaw06.Sha256Lengths': WHATEVER THE INPUT: true; the input reads as it did. -/
def sha256LengthsSpec : ChangeSpec := { name := "sha256Lengths", fn := fun _ => fun
  | [d1, d2] => { results := [.lit (.bool true)], args := [d1, d2] }
  | _ => none }
def sha256LengthsRow : OpenClaim := { program := "ytediocpdpghbfaadoor", sum := "99975a271b0452a3f5aee8e8e1e0de896408e032536a710911c01c6d276e83d6", func := "giro/girolaw06.Sha256Lengths", spec := "sha256Lengths", unfollowed := true, recurses := true, named := ["giro/sha256.initial", "giro/sha256.constants"], apart := false, laid := [("giro/sha256.constants", laid_giro_sha256_constants), ("giro/sha256.initial", laid_giro_sha256_initial)] }
def Sha256LengthsSaid : Prop := sha256LengthsRow.holds Tryd.pinned (OpenSpec.ofChange sha256LengthsSpec)

/-- ITS FALSE NEIGHBOUR: 'it returns false'. Refute it at one input. -/
def sha256LengthsWrong : ChangeSpec := { name := "sha256Lengths", fn := fun _ => fun
  | [d1, d2] => { results := [.lit (.bool false)], args := [d1, d2] }
  | _ => none }
def Sha256LengthsWrongFalsely : Prop := sha256LengthsRow.holds Tryd.pinned (OpenSpec.ofChange sha256LengthsWrong)

/-- 'girolaw06.Sha256Compress': WHATEVER THE INPUT: true; the input reads as it did. -/
def sha256CompressSpec : ChangeSpec := { name := "sha256Compress", fn := fun _ => fun
  | [d1, d2] => { results := [.lit (.bool true)], args := [d1, d2] }
  | _ => none }
def sha256CompressRow : OpenClaim := { program := "ytediocpdpghbfaadoor", sum := "99975a271b0452a3f5aee8e8e1e0de896408e032536a710911c01c6d276e83d6", func := "giro/girolaw06.Sha256Compress", spec := "sha256Compress", unfollowed := true, recurses := true, named := ["giro/sha256.constants", "giro/sha256.initial"], apart := false, laid := [("giro/sha256.constants", laid_giro_sha256_constants), ("giro/sha256.initial", laid_giro_sha256_initial)] }
def Sha256CompressSaid : Prop := sha256CompressRow.holds Tryd.pinned (OpenSpec.ofChange sha256CompressSpec)

/-- ITS FALSE NEIGHBOUR: 'it returns false'. Refute it at one input. -/
def sha256CompressWrong : ChangeSpec := { name := "sha256Compress", fn := fun _ => fun
  | [d1, d2] => { results := [.lit (.bool false)], args := [d1, d2] }
  | _ => none }
def Sha256CompressWrongFalsely : Prop := sha256CompressRow.holds Tryd.pinned (OpenSpec.ofChange sha256CompressWrong)

/-- 'girolaw06.Sha256Hash': WHATEVER THE INPUT: true; the input reads as it did. -/
def sha256HashSpec : ChangeSpec := { name := "sha256Hash", fn := fun _ => fun
  | [d] => { results := [.lit (.bool true)], args := [d] }
  | _ => none }
def sha256HashRow : OpenClaim := { program := "ytediocpdpghbfaadoor", sum := "99975a271b0452a3f5aee8e8e1e0de896408e032536a710911c01c6d276e83d6", func := "giro/girolaw06.Sha256Hash", spec := "sha256Hash", unfollowed := true, recurses := true, named := ["giro/sha256.initial", "giro/sha256.constants"], apart := false, laid := [("giro/sha256.constants", laid_giro_sha256_constants), ("giro/sha256.initial", laid_giro_sha256_initial)] }
def Sha256HashSaid : Prop := sha256HashRow.holds Tryd.pinned (OpenSpec.ofChange sha256HashSpec)

/-- ITS FALSE NEIGHBOUR: 'it returns false'. Refute it at one input. -/
def sha256HashWrong : ChangeSpec := { name := "sha256Hash", fn := fun _ => fun
  | [d] => { results := [.lit (.bool false)], args := [d] }
  | _ => none }
def Sha256HashWrongFalsely : Prop := sha256HashRow.holds Tryd.pinned (OpenSpec.ofChange sha256HashWrong)

/-- 'girolaw06.Sha256Pad': WHATEVER THE INPUT: true; the input reads as it did. -/
def sha256PadSpec : ChangeSpec := { name := "sha256Pad", fn := fun _ => fun
  | [d] => { results := [.lit (.bool true)], args := [d] }
  | _ => none }
def sha256PadRow : OpenClaim := { program := "ytediocpdpghbfaadoor", sum := "99975a271b0452a3f5aee8e8e1e0de896408e032536a710911c01c6d276e83d6", func := "giro/girolaw06.Sha256Pad", spec := "sha256Pad", unfollowed := true, recurses := true, named := ["giro/sha256.initial", "giro/sha256.constants"], apart := false, laid := [("giro/sha256.constants", laid_giro_sha256_constants), ("giro/sha256.initial", laid_giro_sha256_initial)] }
def Sha256PadSaid : Prop := sha256PadRow.holds Tryd.pinned (OpenSpec.ofChange sha256PadSpec)

/-- ITS FALSE NEIGHBOUR: 'it returns false'. Refute it at one input. -/
def sha256PadWrong : ChangeSpec := { name := "sha256Pad", fn := fun _ => fun
  | [d] => { results := [.lit (.bool false)], args := [d] }
  | _ => none }
def Sha256PadWrongFalsely : Prop := sha256PadRow.holds Tryd.pinned (OpenSpec.ofChange sha256PadWrong)

/-- 'girolaw06.Sha256Blocks': WHATEVER THE INPUT: true; the input reads as it did. -/
def sha256BlocksSpec : ChangeSpec := { name := "sha256Blocks", fn := fun _ => fun
  | [d] => { results := [.lit (.bool true)], args := [d] }
  | _ => none }
def sha256BlocksRow : OpenClaim := { program := "ytediocpdpghbfaadoor", sum := "99975a271b0452a3f5aee8e8e1e0de896408e032536a710911c01c6d276e83d6", func := "giro/girolaw06.Sha256Blocks", spec := "sha256Blocks", unfollowed := true, recurses := true, named := ["giro/sha256.initial", "giro/sha256.constants"], apart := false, laid := [("giro/sha256.constants", laid_giro_sha256_constants), ("giro/sha256.initial", laid_giro_sha256_initial)] }
def Sha256BlocksSaid : Prop := sha256BlocksRow.holds Tryd.pinned (OpenSpec.ofChange sha256BlocksSpec)

/-- ITS FALSE NEIGHBOUR: 'it returns false'. Refute it at one input. -/
def sha256BlocksWrong : ChangeSpec := { name := "sha256Blocks", fn := fun _ => fun
  | [d] => { results := [.lit (.bool false)], args := [d] }
  | _ => none }
def Sha256BlocksWrongFalsely : Prop := sha256BlocksRow.holds Tryd.pinned (OpenSpec.ofChange sha256BlocksWrong)

/-- 'girolaw06.Sha256Clone': WHATEVER THE INPUT: true; the input reads as it did. -/
def sha256CloneSpec : ChangeSpec := { name := "sha256Clone", fn := fun _ => fun
  | [d1, d2, d3] => { results := [.lit (.bool true)], args := [d1, d2, d3] }
  | _ => none }
def sha256CloneRow : OpenClaim := { program := "ytediocpdpghbfaadoor", sum := "99975a271b0452a3f5aee8e8e1e0de896408e032536a710911c01c6d276e83d6", func := "giro/girolaw06.Sha256Clone", spec := "sha256Clone", unfollowed := true, recurses := true, named := ["giro/sha256.constants", "giro/sha256.initial"], apart := false, laid := [("giro/sha256.constants", laid_giro_sha256_constants), ("giro/sha256.initial", laid_giro_sha256_initial)] }
def Sha256CloneSaid : Prop := sha256CloneRow.holds Tryd.pinned (OpenSpec.ofChange sha256CloneSpec)

/-- ITS FALSE NEIGHBOUR: 'it returns false'. Refute it at one input. -/
def sha256CloneWrong : ChangeSpec := { name := "sha256Clone", fn := fun _ => fun
  | [d1, d2, d3] => { results := [.lit (.bool false)], args := [d1, d2, d3] }
  | _ => none }
def Sha256CloneWrongFalsely : Prop := sha256CloneRow.holds Tryd.pinned (OpenSpec.ofChange sha256CloneWrong)

/-- 'girolaw06.Sha256Text': WHATEVER THE INPUT: true; the input reads as it did. -/
def sha256TextSpec : ChangeSpec := { name := "sha256Text", fn := fun _ => fun
  | [d1, d2] => { results := [.lit (.bool true)], args := [d1, d2] }
  | _ => none }
def sha256TextRow : OpenClaim := { program := "ytediocpdpghbfaadoor", sum := "99975a271b0452a3f5aee8e8e1e0de896408e032536a710911c01c6d276e83d6", func := "giro/girolaw06.Sha256Text", spec := "sha256Text", unfollowed := true, recurses := true, named := ["giro/sha256.initial", "giro/sha256.constants"], apart := false, laid := [("giro/sha256.constants", laid_giro_sha256_constants), ("giro/sha256.initial", laid_giro_sha256_initial)] }
def Sha256TextSaid : Prop := sha256TextRow.holds Tryd.pinned (OpenSpec.ofChange sha256TextSpec)

/-- ITS FALSE NEIGHBOUR: 'it returns false'. Refute it at one input. -/
def sha256TextWrong : ChangeSpec := { name := "sha256Text", fn := fun _ => fun
  | [d1, d2] => { results := [.lit (.bool false)], args := [d1, d2] }
  | _ => none }
def Sha256TextWrongFalsely : Prop := sha256TextRow.holds Tryd.pinned (OpenSpec.ofChange sha256TextWrong)

/-- 'girolaw07.MerkleHashes': WHATEVER THE INPUT: true; the input reads as it did. -/
def merkleHashesSpec : ChangeSpec := { name := "merkleHashes", fn := fun _ => fun
  | [d1, d2, d3] => { results := [.lit (.bool true)], args := [d1, d2, d3] }
  | _ => none }
def merkleHashesRow : OpenClaim := { program := "ytediocpdpghbfaadoor", sum := "99975a271b0452a3f5aee8e8e1e0de896408e032536a710911c01c6d276e83d6", func := "giro/girolaw07.MerkleHashes", spec := "merkleHashes", unfollowed := true, recurses := true, named := ["giro/sha256.initial", "giro/sha256.constants"], apart := false, laid := [("giro/sha256.constants", laid_giro_sha256_constants), ("giro/sha256.initial", laid_giro_sha256_initial)] }
def MerkleHashesSaid : Prop := merkleHashesRow.holds Tryd.pinned (OpenSpec.ofChange merkleHashesSpec)

/-- ITS FALSE NEIGHBOUR: 'it returns false'. Refute it at one input. -/
def merkleHashesWrong : ChangeSpec := { name := "merkleHashes", fn := fun _ => fun
  | [d1, d2, d3] => { results := [.lit (.bool false)], args := [d1, d2, d3] }
  | _ => none }
def MerkleHashesWrongFalsely : Prop := merkleHashesRow.holds Tryd.pinned (OpenSpec.ofChange merkleHashesWrong)

/-- 'girolaw07.MerkleRoots': WHATEVER THE INPUT: true; the input reads as it did. -/
def merkleRootsSpec : ChangeSpec := { name := "merkleRoots", fn := fun _ => fun
  | [d] => { results := [.lit (.bool true)], args := [d] }
  | _ => none }
def merkleRootsRow : OpenClaim := { program := "ytediocpdpghbfaadoor", sum := "99975a271b0452a3f5aee8e8e1e0de896408e032536a710911c01c6d276e83d6", func := "giro/girolaw07.MerkleRoots", spec := "merkleRoots", unfollowed := true, recurses := true, named := ["giro/sha256.initial", "giro/sha256.constants"], apart := false, laid := [("giro/sha256.constants", laid_giro_sha256_constants), ("giro/sha256.initial", laid_giro_sha256_initial)] }
def MerkleRootsSaid : Prop := merkleRootsRow.holds Tryd.pinned (OpenSpec.ofChange merkleRootsSpec)

/-- ITS FALSE NEIGHBOUR: 'it returns false'. Refute it at one input. -/
def merkleRootsWrong : ChangeSpec := { name := "merkleRoots", fn := fun _ => fun
  | [d] => { results := [.lit (.bool false)], args := [d] }
  | _ => none }
def MerkleRootsWrongFalsely : Prop := merkleRootsRow.holds Tryd.pinned (OpenSpec.ofChange merkleRootsWrong)

/-- 'girolaw07.MerkleProofs': WHATEVER THE INPUT: true; the input reads as it did. -/
def merkleProofsSpec : ChangeSpec := { name := "merkleProofs", fn := fun _ => fun
  | [d1, d2] => { results := [.lit (.bool true)], args := [d1, d2] }
  | _ => none }
def merkleProofsRow : OpenClaim := { program := "ytediocpdpghbfaadoor", sum := "99975a271b0452a3f5aee8e8e1e0de896408e032536a710911c01c6d276e83d6", func := "giro/girolaw07.MerkleProofs", spec := "merkleProofs", unfollowed := true, recurses := true, named := ["giro/sha256.initial", "giro/sha256.constants"], apart := false, laid := [("giro/sha256.constants", laid_giro_sha256_constants), ("giro/sha256.initial", laid_giro_sha256_initial)] }
def MerkleProofsSaid : Prop := merkleProofsRow.holds Tryd.pinned (OpenSpec.ofChange merkleProofsSpec)

/-- ITS FALSE NEIGHBOUR: 'it returns false'. Refute it at one input. -/
def merkleProofsWrong : ChangeSpec := { name := "merkleProofs", fn := fun _ => fun
  | [d1, d2] => { results := [.lit (.bool false)], args := [d1, d2] }
  | _ => none }
def MerkleProofsWrongFalsely : Prop := merkleProofsRow.holds Tryd.pinned (OpenSpec.ofChange merkleProofsWrong)

/-- 'girolaw07.MerkleVerify': WHATEVER THE INPUT: true; the input reads as it did. -/
def merkleVerifySpec : ChangeSpec := { name := "merkleVerify", fn := fun _ => fun
  | [d1, d2, d3] => { results := [.lit (.bool true)], args := [d1, d2, d3] }
  | _ => none }
def merkleVerifyRow : OpenClaim := { program := "ytediocpdpghbfaadoor", sum := "99975a271b0452a3f5aee8e8e1e0de896408e032536a710911c01c6d276e83d6", func := "giro/girolaw07.MerkleVerify", spec := "merkleVerify", unfollowed := true, recurses := true, named := ["giro/sha256.initial", "giro/sha256.constants"], apart := false, laid := [("giro/sha256.constants", laid_giro_sha256_constants), ("giro/sha256.initial", laid_giro_sha256_initial)] }
def MerkleVerifySaid : Prop := merkleVerifyRow.holds Tryd.pinned (OpenSpec.ofChange merkleVerifySpec)

/-- ITS FALSE NEIGHBOUR: 'it returns false'. Refute it at one input. -/
def merkleVerifyWrong : ChangeSpec := { name := "merkleVerify", fn := fun _ => fun
  | [d1, d2, d3] => { results := [.lit (.bool false)], args := [d1, d2, d3] }
  | _ => none }
def MerkleVerifyWrongFalsely : Prop := merkleVerifyRow.holds Tryd.pinned (OpenSpec.ofChange merkleVerifyWrong)

/-- 'girolaw07.MerkleConsistency': WHATEVER THE INPUT: true; the input reads as it did. -/
def merkleConsistencySpec : ChangeSpec := { name := "merkleConsistency", fn := fun _ => fun
  | [d1, d2] => { results := [.lit (.bool true)], args := [d1, d2] }
  | _ => none }
def merkleConsistencyRow : OpenClaim := { program := "ytediocpdpghbfaadoor", sum := "99975a271b0452a3f5aee8e8e1e0de896408e032536a710911c01c6d276e83d6", func := "giro/girolaw07.MerkleConsistency", spec := "merkleConsistency", unfollowed := true, recurses := true, named := ["giro/sha256.initial", "giro/sha256.constants"], apart := false, laid := [("giro/sha256.constants", laid_giro_sha256_constants), ("giro/sha256.initial", laid_giro_sha256_initial)] }
def MerkleConsistencySaid : Prop := merkleConsistencyRow.holds Tryd.pinned (OpenSpec.ofChange merkleConsistencySpec)

/-- ITS FALSE NEIGHBOUR: 'it returns false'. Refute it at one input. -/
def merkleConsistencyWrong : ChangeSpec := { name := "merkleConsistency", fn := fun _ => fun
  | [d1, d2] => { results := [.lit (.bool false)], args := [d1, d2] }
  | _ => none }
def MerkleConsistencyWrongFalsely : Prop := merkleConsistencyRow.holds Tryd.pinned (OpenSpec.ofChange merkleConsistencyWrong)

/-- 'girolaw07.MerkleVerifyConsistency': WHATEVER THE INPUT: true; the input reads as it did. -/
def merkleVerifyConsistencySpec : ChangeSpec := { name := "merkleVerifyConsistency", fn := fun _ => fun
  | [d1, d2, d3] => { results := [.lit (.bool true)], args := [d1, d2, d3] }
  | _ => none }
def merkleVerifyConsistencyRow : OpenClaim := { program := "ytediocpdpghbfaadoor", sum := "99975a271b0452a3f5aee8e8e1e0de896408e032536a710911c01c6d276e83d6", func := "giro/girolaw07.MerkleVerifyConsistency", spec := "merkleVerifyConsistency", unfollowed := true, recurses := true, named := ["giro/sha256.initial", "giro/sha256.constants"], apart := false, laid := [("giro/sha256.constants", laid_giro_sha256_constants), ("giro/sha256.initial", laid_giro_sha256_initial)] }
def MerkleVerifyConsistencySaid : Prop := merkleVerifyConsistencyRow.holds Tryd.pinned (OpenSpec.ofChange merkleVerifyConsistencySpec)

/-- ITS FALSE NEIGHBOUR: 'it returns false'. Refute it at one input. -/
def merkleVerifyConsistencyWrong : ChangeSpec := { name := "merkleVerifyConsistency", fn := fun _ => fun
  | [d1, d2, d3] => { results := [.lit (.bool false)], args := [d1, d2, d3] }
  | _ => none }
def MerkleVerifyConsistencyWrongFalsely : Prop := merkleVerifyConsistencyRow.holds Tryd.pinned (OpenSpec.ofChange merkleVerifyConsistencyWrong)

/-- 'girolaw07.MerkleTrees': WHATEVER THE INPUT: true; the input reads as it did. -/
def merkleTreesSpec : ChangeSpec := { name := "merkleTrees", fn := fun _ => fun
  | [d1, d2] => { results := [.lit (.bool true)], args := [d1, d2] }
  | _ => none }
def merkleTreesRow : OpenClaim := { program := "ytediocpdpghbfaadoor", sum := "99975a271b0452a3f5aee8e8e1e0de896408e032536a710911c01c6d276e83d6", func := "giro/girolaw07.MerkleTrees", spec := "merkleTrees", unfollowed := true, recurses := true, named := ["giro/sha256.initial", "giro/sha256.constants"], apart := false, laid := [("giro/sha256.constants", laid_giro_sha256_constants), ("giro/sha256.initial", laid_giro_sha256_initial)] }
def MerkleTreesSaid : Prop := merkleTreesRow.holds Tryd.pinned (OpenSpec.ofChange merkleTreesSpec)

/-- ITS FALSE NEIGHBOUR: 'it returns false'. Refute it at one input. -/
def merkleTreesWrong : ChangeSpec := { name := "merkleTrees", fn := fun _ => fun
  | [d1, d2] => { results := [.lit (.bool false)], args := [d1, d2] }
  | _ => none }
def MerkleTreesWrongFalsely : Prop := merkleTreesRow.holds Tryd.pinned (OpenSpec.ofChange merkleTreesWrong)

/-- 'girolaw07.MerkleTampering': WHATEVER THE INPUT: true; the input reads as it did. -/
def merkleTamperingSpec : ChangeSpec := { name := "merkleTampering", fn := fun _ => fun
  | [d1, d2, d3] => { results := [.lit (.bool true)], args := [d1, d2, d3] }
  | _ => none }
def merkleTamperingRow : OpenClaim := { program := "ytediocpdpghbfaadoor", sum := "99975a271b0452a3f5aee8e8e1e0de896408e032536a710911c01c6d276e83d6", func := "giro/girolaw07.MerkleTampering", spec := "merkleTampering", unfollowed := true, recurses := true, named := ["giro/sha256.initial", "giro/sha256.constants"], apart := false, laid := [("giro/sha256.constants", laid_giro_sha256_constants), ("giro/sha256.initial", laid_giro_sha256_initial)] }
def MerkleTamperingSaid : Prop := merkleTamperingRow.holds Tryd.pinned (OpenSpec.ofChange merkleTamperingSpec)

/-- ITS FALSE NEIGHBOUR: 'it returns false'. Refute it at one input. -/
def merkleTamperingWrong : ChangeSpec := { name := "merkleTampering", fn := fun _ => fun
  | [d1, d2, d3] => { results := [.lit (.bool false)], args := [d1, d2, d3] }
  | _ => none }
def MerkleTamperingWrongFalsely : Prop := merkleTamperingRow.holds Tryd.pinned (OpenSpec.ofChange merkleTamperingWrong)

/- THE SECOND FORM. 'bulk': how many values and letters a reading holds, each counted each time it is reached (what is shared counts as often as it is met; a slice's spare places count too). A statement '..UptoSaid' is the law's where the arguments, and the package variables that the reading takes, are together of bulk at most 1048576: NARROWER than '..Said'. Prove '..Said' where nothing that the law and all that it calls make is longer than what came in: it says more and counts as full. Else prove '..UptoSaid'. A law counts once. -/
mutual
def uptoBulk {H : Type} : DataW H → Nat
  | .lit (.string bytes) => bytes.length + 1
  | .lit _ => 1
  | .nil => 1
  | .ptr d => uptoBulk d + 1
  | .slice elems spare => uptoBulkAll elems + uptoBulkAll spare + 1
  | .agg parts => uptoBulkAll parts + 1
  | .iface _ d => uptoBulk d + 1
  | .map entries => uptoBulkEntries entries + 1
  | .held _ => 1
def uptoBulkAll {H : Type} : List (DataW H) → Nat
  | [] => 0
  | d :: r => uptoBulk d + uptoBulkAll r
def uptoBulkEntries {H : Type} : List (Lit × DataW H) → Nat
  | [] => 0
  | x :: r => uptoBulkEntry x + uptoBulkEntries r
def uptoBulkEntry {H : Type} : Lit × DataW H → Nat
  | (.string bytes, d) => bytes.length + uptoBulk d + 1
  | (_, d) => uptoBulk d + 1
 end
def uptoSmall : (H : Type) → List (DataW H) → Bool := fun _ ds => decide (uptoBulkAll ds ≤ 1048576)
def OpenSpec.upto (s : _root_.Go.ChangeSpec) : _root_.Go.OpenSpec := { _root_.Go.OpenSpec.ofChange s with cond := some uptoSmall }

/-- 'girolaw06.Sha256Sum', WHERE WHAT IT READS IS OF BULK AT MOST 1048576: true; the input reads as it did. -/
def sha256SumUptoRow : OpenClaim := { program := "ytediocpdpghbfaadoor", sum := "99975a271b0452a3f5aee8e8e1e0de896408e032536a710911c01c6d276e83d6", func := "giro/girolaw06.Sha256Sum", spec := "sha256Sum", unfollowed := true, recurses := true, named := ["giro/sha256.initial", "giro/sha256.constants"], apart := false, laid := [("giro/sha256.constants", laid_giro_sha256_constants), ("giro/sha256.initial", laid_giro_sha256_initial)], narrowed := true }
def Sha256SumUptoSaid : Prop := sha256SumUptoRow.holds Tryd.pinned (OpenSpec.upto sha256SumSpec)

/-- 'girolaw06.Sha256Lengths', WHERE WHAT IT READS IS OF BULK AT MOST 1048576: true; the input reads as it did. -/
def sha256LengthsUptoRow : OpenClaim := { program := "ytediocpdpghbfaadoor", sum := "99975a271b0452a3f5aee8e8e1e0de896408e032536a710911c01c6d276e83d6", func := "giro/girolaw06.Sha256Lengths", spec := "sha256Lengths", unfollowed := true, recurses := true, named := ["giro/sha256.initial", "giro/sha256.constants"], apart := false, laid := [("giro/sha256.constants", laid_giro_sha256_constants), ("giro/sha256.initial", laid_giro_sha256_initial)], narrowed := true }
def Sha256LengthsUptoSaid : Prop := sha256LengthsUptoRow.holds Tryd.pinned (OpenSpec.upto sha256LengthsSpec)

/-- 'girolaw06.Sha256Compress', WHERE WHAT IT READS IS OF BULK AT MOST 1048576: true; the input reads as it did. -/
def sha256CompressUptoRow : OpenClaim := { program := "ytediocpdpghbfaadoor", sum := "99975a271b0452a3f5aee8e8e1e0de896408e032536a710911c01c6d276e83d6", func := "giro/girolaw06.Sha256Compress", spec := "sha256Compress", unfollowed := true, recurses := true, named := ["giro/sha256.constants", "giro/sha256.initial"], apart := false, laid := [("giro/sha256.constants", laid_giro_sha256_constants), ("giro/sha256.initial", laid_giro_sha256_initial)], narrowed := true }
def Sha256CompressUptoSaid : Prop := sha256CompressUptoRow.holds Tryd.pinned (OpenSpec.upto sha256CompressSpec)

/-- 'girolaw06.Sha256Hash', WHERE WHAT IT READS IS OF BULK AT MOST 1048576: true; the input reads as it did. -/
def sha256HashUptoRow : OpenClaim := { program := "ytediocpdpghbfaadoor", sum := "99975a271b0452a3f5aee8e8e1e0de896408e032536a710911c01c6d276e83d6", func := "giro/girolaw06.Sha256Hash", spec := "sha256Hash", unfollowed := true, recurses := true, named := ["giro/sha256.initial", "giro/sha256.constants"], apart := false, laid := [("giro/sha256.constants", laid_giro_sha256_constants), ("giro/sha256.initial", laid_giro_sha256_initial)], narrowed := true }
def Sha256HashUptoSaid : Prop := sha256HashUptoRow.holds Tryd.pinned (OpenSpec.upto sha256HashSpec)

/-- 'girolaw06.Sha256Pad', WHERE WHAT IT READS IS OF BULK AT MOST 1048576: true; the input reads as it did. -/
def sha256PadUptoRow : OpenClaim := { program := "ytediocpdpghbfaadoor", sum := "99975a271b0452a3f5aee8e8e1e0de896408e032536a710911c01c6d276e83d6", func := "giro/girolaw06.Sha256Pad", spec := "sha256Pad", unfollowed := true, recurses := true, named := ["giro/sha256.initial", "giro/sha256.constants"], apart := false, laid := [("giro/sha256.constants", laid_giro_sha256_constants), ("giro/sha256.initial", laid_giro_sha256_initial)], narrowed := true }
def Sha256PadUptoSaid : Prop := sha256PadUptoRow.holds Tryd.pinned (OpenSpec.upto sha256PadSpec)

/-- 'girolaw06.Sha256Blocks', WHERE WHAT IT READS IS OF BULK AT MOST 1048576: true; the input reads as it did. -/
def sha256BlocksUptoRow : OpenClaim := { program := "ytediocpdpghbfaadoor", sum := "99975a271b0452a3f5aee8e8e1e0de896408e032536a710911c01c6d276e83d6", func := "giro/girolaw06.Sha256Blocks", spec := "sha256Blocks", unfollowed := true, recurses := true, named := ["giro/sha256.initial", "giro/sha256.constants"], apart := false, laid := [("giro/sha256.constants", laid_giro_sha256_constants), ("giro/sha256.initial", laid_giro_sha256_initial)], narrowed := true }
def Sha256BlocksUptoSaid : Prop := sha256BlocksUptoRow.holds Tryd.pinned (OpenSpec.upto sha256BlocksSpec)

/-- 'girolaw06.Sha256Clone', WHERE WHAT IT READS IS OF BULK AT MOST 1048576: true; the input reads as it did. -/
def sha256CloneUptoRow : OpenClaim := { program := "ytediocpdpghbfaadoor", sum := "99975a271b0452a3f5aee8e8e1e0de896408e032536a710911c01c6d276e83d6", func := "giro/girolaw06.Sha256Clone", spec := "sha256Clone", unfollowed := true, recurses := true, named := ["giro/sha256.constants", "giro/sha256.initial"], apart := false, laid := [("giro/sha256.constants", laid_giro_sha256_constants), ("giro/sha256.initial", laid_giro_sha256_initial)], narrowed := true }
def Sha256CloneUptoSaid : Prop := sha256CloneUptoRow.holds Tryd.pinned (OpenSpec.upto sha256CloneSpec)

/-- 'girolaw06.Sha256Text', WHERE WHAT IT READS IS OF BULK AT MOST 1048576: true; the input reads as it did. -/
def sha256TextUptoRow : OpenClaim := { program := "ytediocpdpghbfaadoor", sum := "99975a271b0452a3f5aee8e8e1e0de896408e032536a710911c01c6d276e83d6", func := "giro/girolaw06.Sha256Text", spec := "sha256Text", unfollowed := true, recurses := true, named := ["giro/sha256.initial", "giro/sha256.constants"], apart := false, laid := [("giro/sha256.constants", laid_giro_sha256_constants), ("giro/sha256.initial", laid_giro_sha256_initial)], narrowed := true }
def Sha256TextUptoSaid : Prop := sha256TextUptoRow.holds Tryd.pinned (OpenSpec.upto sha256TextSpec)

/-- 'girolaw07.MerkleHashes', WHERE WHAT IT READS IS OF BULK AT MOST 1048576: true; the input reads as it did. -/
def merkleHashesUptoRow : OpenClaim := { program := "ytediocpdpghbfaadoor", sum := "99975a271b0452a3f5aee8e8e1e0de896408e032536a710911c01c6d276e83d6", func := "giro/girolaw07.MerkleHashes", spec := "merkleHashes", unfollowed := true, recurses := true, named := ["giro/sha256.initial", "giro/sha256.constants"], apart := false, laid := [("giro/sha256.constants", laid_giro_sha256_constants), ("giro/sha256.initial", laid_giro_sha256_initial)], narrowed := true }
def MerkleHashesUptoSaid : Prop := merkleHashesUptoRow.holds Tryd.pinned (OpenSpec.upto merkleHashesSpec)

/-- 'girolaw07.MerkleRoots', WHERE WHAT IT READS IS OF BULK AT MOST 1048576: true; the input reads as it did. -/
def merkleRootsUptoRow : OpenClaim := { program := "ytediocpdpghbfaadoor", sum := "99975a271b0452a3f5aee8e8e1e0de896408e032536a710911c01c6d276e83d6", func := "giro/girolaw07.MerkleRoots", spec := "merkleRoots", unfollowed := true, recurses := true, named := ["giro/sha256.initial", "giro/sha256.constants"], apart := false, laid := [("giro/sha256.constants", laid_giro_sha256_constants), ("giro/sha256.initial", laid_giro_sha256_initial)], narrowed := true }
def MerkleRootsUptoSaid : Prop := merkleRootsUptoRow.holds Tryd.pinned (OpenSpec.upto merkleRootsSpec)

/-- 'girolaw07.MerkleProofs', WHERE WHAT IT READS IS OF BULK AT MOST 1048576: true; the input reads as it did. -/
def merkleProofsUptoRow : OpenClaim := { program := "ytediocpdpghbfaadoor", sum := "99975a271b0452a3f5aee8e8e1e0de896408e032536a710911c01c6d276e83d6", func := "giro/girolaw07.MerkleProofs", spec := "merkleProofs", unfollowed := true, recurses := true, named := ["giro/sha256.initial", "giro/sha256.constants"], apart := false, laid := [("giro/sha256.constants", laid_giro_sha256_constants), ("giro/sha256.initial", laid_giro_sha256_initial)], narrowed := true }
def MerkleProofsUptoSaid : Prop := merkleProofsUptoRow.holds Tryd.pinned (OpenSpec.upto merkleProofsSpec)

/-- 'girolaw07.MerkleVerify', WHERE WHAT IT READS IS OF BULK AT MOST 1048576: true; the input reads as it did. -/
def merkleVerifyUptoRow : OpenClaim := { program := "ytediocpdpghbfaadoor", sum := "99975a271b0452a3f5aee8e8e1e0de896408e032536a710911c01c6d276e83d6", func := "giro/girolaw07.MerkleVerify", spec := "merkleVerify", unfollowed := true, recurses := true, named := ["giro/sha256.initial", "giro/sha256.constants"], apart := false, laid := [("giro/sha256.constants", laid_giro_sha256_constants), ("giro/sha256.initial", laid_giro_sha256_initial)], narrowed := true }
def MerkleVerifyUptoSaid : Prop := merkleVerifyUptoRow.holds Tryd.pinned (OpenSpec.upto merkleVerifySpec)

/-- 'girolaw07.MerkleConsistency', WHERE WHAT IT READS IS OF BULK AT MOST 1048576: true; the input reads as it did. -/
def merkleConsistencyUptoRow : OpenClaim := { program := "ytediocpdpghbfaadoor", sum := "99975a271b0452a3f5aee8e8e1e0de896408e032536a710911c01c6d276e83d6", func := "giro/girolaw07.MerkleConsistency", spec := "merkleConsistency", unfollowed := true, recurses := true, named := ["giro/sha256.initial", "giro/sha256.constants"], apart := false, laid := [("giro/sha256.constants", laid_giro_sha256_constants), ("giro/sha256.initial", laid_giro_sha256_initial)], narrowed := true }
def MerkleConsistencyUptoSaid : Prop := merkleConsistencyUptoRow.holds Tryd.pinned (OpenSpec.upto merkleConsistencySpec)

/-- 'girolaw07.MerkleVerifyConsistency', WHERE WHAT IT READS IS OF BULK AT MOST 1048576: true; the input reads as it did. -/
def merkleVerifyConsistencyUptoRow : OpenClaim := { program := "ytediocpdpghbfaadoor", sum := "99975a271b0452a3f5aee8e8e1e0de896408e032536a710911c01c6d276e83d6", func := "giro/girolaw07.MerkleVerifyConsistency", spec := "merkleVerifyConsistency", unfollowed := true, recurses := true, named := ["giro/sha256.initial", "giro/sha256.constants"], apart := false, laid := [("giro/sha256.constants", laid_giro_sha256_constants), ("giro/sha256.initial", laid_giro_sha256_initial)], narrowed := true }
def MerkleVerifyConsistencyUptoSaid : Prop := merkleVerifyConsistencyUptoRow.holds Tryd.pinned (OpenSpec.upto merkleVerifyConsistencySpec)

/-- 'girolaw07.MerkleTrees', WHERE WHAT IT READS IS OF BULK AT MOST 1048576: true; the input reads as it did. -/
def merkleTreesUptoRow : OpenClaim := { program := "ytediocpdpghbfaadoor", sum := "99975a271b0452a3f5aee8e8e1e0de896408e032536a710911c01c6d276e83d6", func := "giro/girolaw07.MerkleTrees", spec := "merkleTrees", unfollowed := true, recurses := true, named := ["giro/sha256.initial", "giro/sha256.constants"], apart := false, laid := [("giro/sha256.constants", laid_giro_sha256_constants), ("giro/sha256.initial", laid_giro_sha256_initial)], narrowed := true }
def MerkleTreesUptoSaid : Prop := merkleTreesUptoRow.holds Tryd.pinned (OpenSpec.upto merkleTreesSpec)

/-- 'girolaw07.MerkleTampering', WHERE WHAT IT READS IS OF BULK AT MOST 1048576: true; the input reads as it did. -/
def merkleTamperingUptoRow : OpenClaim := { program := "ytediocpdpghbfaadoor", sum := "99975a271b0452a3f5aee8e8e1e0de896408e032536a710911c01c6d276e83d6", func := "giro/girolaw07.MerkleTampering", spec := "merkleTampering", unfollowed := true, recurses := true, named := ["giro/sha256.initial", "giro/sha256.constants"], apart := false, laid := [("giro/sha256.constants", laid_giro_sha256_constants), ("giro/sha256.initial", laid_giro_sha256_initial)], narrowed := true }
def MerkleTamperingUptoSaid : Prop := merkleTamperingUptoRow.holds Tryd.pinned (OpenSpec.upto merkleTamperingSpec)

end Rows
end Go.Proofs.YtediocpdpghbfaaDoor
