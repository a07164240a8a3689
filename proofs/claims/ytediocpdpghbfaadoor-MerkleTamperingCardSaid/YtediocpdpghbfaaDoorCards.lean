/-
  DERIVED. GIVEN WITH THE SEED: THE CARDS: each row of YtediocpdpghbfaaDoorRows.lean that lists a variable, with what it lists TIED to the program's text (the seventh form; the later family's looks); each row that meets fmt, with fmt's text TOLD by the authors' own Lean function (tested against real Go, not proved from fmt's source: count such statements apart). THE CARD IS WHAT COUNTS. Prove the row's statement (the work); the ties are given (YtediocpdpghbfaaDoorTie.lean); close each card by the builder's one call (the guide's Derived/Test/ToyasCard.lean, 'card_holds'). Laid BY PROGRAM, IN A SANDBOX (cutbox-door.mjs). By AI agents, Wed Nov 11 2026. No macro, syntax, notation, axiom, sorry.
-/
import Derived.Test.YtediocpdpghbfaaDoorRows
import GoSem.ClaimSeven
namespace Go.Proofs.YtediocpdpghbfaaDoor
namespace Rows

/-- THE TIED CARD OF 'girolaw06.Sha256Sum'. -/
def sha256SumCard : Claim7 := { stood := { row := sha256SumRow, standIns := [], harness := (true, "cda58d531a6b1f2b613861e5b149c43f47e7a5acb90c60636c3c6369e33f15f2"), looks := false }, kinds := [], alts := [], laidByText := true, laidKinds := [.data, .data], laidTests := true, laidLooks := .later }
def Sha256SumCardSaid : Prop := Claim7.holds Tryd.pinned (.plain (OpenSpec.ofChange sha256SumSpec)) sha256SumCard

/-- THE TIED CARD OF 'girolaw06.Sha256Lengths'. -/
def sha256LengthsCard : Claim7 := { stood := { row := sha256LengthsRow, standIns := [], harness := (true, "cda58d531a6b1f2b613861e5b149c43f47e7a5acb90c60636c3c6369e33f15f2"), looks := false }, kinds := [], alts := [], laidByText := true, laidKinds := [.data, .data], laidTests := true, laidLooks := .later }
def Sha256LengthsCardSaid : Prop := Claim7.holds Tryd.pinned (.plain (OpenSpec.ofChange sha256LengthsSpec)) sha256LengthsCard

/-- THE TIED CARD OF 'girolaw06.Sha256Compress'. -/
def sha256CompressCard : Claim7 := { stood := { row := sha256CompressRow, standIns := [], harness := (true, "cda58d531a6b1f2b613861e5b149c43f47e7a5acb90c60636c3c6369e33f15f2"), looks := false }, kinds := [], alts := [], laidByText := true, laidKinds := [.data, .data], laidTests := true, laidLooks := .later }
def Sha256CompressCardSaid : Prop := Claim7.holds Tryd.pinned (.plain (OpenSpec.ofChange sha256CompressSpec)) sha256CompressCard

/-- THE TIED CARD OF 'girolaw06.Sha256Hash'. -/
def sha256HashCard : Claim7 := { stood := { row := sha256HashRow, standIns := [], harness := (true, "cda58d531a6b1f2b613861e5b149c43f47e7a5acb90c60636c3c6369e33f15f2"), looks := false }, kinds := [], alts := [], laidByText := true, laidKinds := [.data, .data], laidTests := true, laidLooks := .later }
def Sha256HashCardSaid : Prop := Claim7.holds Tryd.pinned (.plain (OpenSpec.ofChange sha256HashSpec)) sha256HashCard

/-- THE TIED CARD OF 'girolaw06.Sha256Pad'. -/
def sha256PadCard : Claim7 := { stood := { row := sha256PadRow, standIns := [], harness := (true, "cda58d531a6b1f2b613861e5b149c43f47e7a5acb90c60636c3c6369e33f15f2"), looks := false }, kinds := [], alts := [], laidByText := true, laidKinds := [.data, .data], laidTests := true, laidLooks := .later }
def Sha256PadCardSaid : Prop := Claim7.holds Tryd.pinned (.plain (OpenSpec.ofChange sha256PadSpec)) sha256PadCard

/-- THE TIED CARD OF 'girolaw06.Sha256Blocks'. -/
def sha256BlocksCard : Claim7 := { stood := { row := sha256BlocksRow, standIns := [], harness := (true, "cda58d531a6b1f2b613861e5b149c43f47e7a5acb90c60636c3c6369e33f15f2"), looks := false }, kinds := [], alts := [], laidByText := true, laidKinds := [.data, .data], laidTests := true, laidLooks := .later }
def Sha256BlocksCardSaid : Prop := Claim7.holds Tryd.pinned (.plain (OpenSpec.ofChange sha256BlocksSpec)) sha256BlocksCard

/-- THE TIED CARD OF 'girolaw06.Sha256Clone'. -/
def sha256CloneCard : Claim7 := { stood := { row := sha256CloneRow, standIns := [], harness := (true, "cda58d531a6b1f2b613861e5b149c43f47e7a5acb90c60636c3c6369e33f15f2"), looks := false }, kinds := [], alts := [], laidByText := true, laidKinds := [.data, .data], laidTests := true, laidLooks := .later }
def Sha256CloneCardSaid : Prop := Claim7.holds Tryd.pinned (.plain (OpenSpec.ofChange sha256CloneSpec)) sha256CloneCard

/-- THE TIED CARD OF 'girolaw06.Sha256Text'. -/
def sha256TextCard : Claim7 := { stood := { row := sha256TextRow, standIns := [], harness := (true, "cda58d531a6b1f2b613861e5b149c43f47e7a5acb90c60636c3c6369e33f15f2"), looks := false }, kinds := [], alts := [], laidByText := true, laidKinds := [.data, .data], laidTests := true, laidLooks := .later }
def Sha256TextCardSaid : Prop := Claim7.holds Tryd.pinned (.plain (OpenSpec.ofChange sha256TextSpec)) sha256TextCard

/-- THE TIED CARD OF 'girolaw07.MerkleHashes'. -/
def merkleHashesCard : Claim7 := { stood := { row := merkleHashesRow, standIns := [], harness := (true, "cda58d531a6b1f2b613861e5b149c43f47e7a5acb90c60636c3c6369e33f15f2"), looks := false }, kinds := [], alts := [], laidByText := true, laidKinds := [.data, .data], laidTests := true, laidLooks := .later }
def MerkleHashesCardSaid : Prop := Claim7.holds Tryd.pinned (.plain (OpenSpec.ofChange merkleHashesSpec)) merkleHashesCard

/-- THE TIED CARD OF 'girolaw07.MerkleRoots'. -/
def merkleRootsCard : Claim7 := { stood := { row := merkleRootsRow, standIns := [], harness := (true, "cda58d531a6b1f2b613861e5b149c43f47e7a5acb90c60636c3c6369e33f15f2"), looks := false }, kinds := [], alts := [], laidByText := true, laidKinds := [.data, .data], laidTests := true, laidLooks := .later }
def MerkleRootsCardSaid : Prop := Claim7.holds Tryd.pinned (.plain (OpenSpec.ofChange merkleRootsSpec)) merkleRootsCard

/-- THE TIED CARD OF 'girolaw07.MerkleProofs'. -/
def merkleProofsCard : Claim7 := { stood := { row := merkleProofsRow, standIns := [], harness := (true, "cda58d531a6b1f2b613861e5b149c43f47e7a5acb90c60636c3c6369e33f15f2"), looks := false }, kinds := [], alts := [], laidByText := true, laidKinds := [.data, .data], laidTests := true, laidLooks := .later }
def MerkleProofsCardSaid : Prop := Claim7.holds Tryd.pinned (.plain (OpenSpec.ofChange merkleProofsSpec)) merkleProofsCard

/-- THE TIED CARD OF 'girolaw07.MerkleVerify'. -/
def merkleVerifyCard : Claim7 := { stood := { row := merkleVerifyRow, standIns := [], harness := (true, "cda58d531a6b1f2b613861e5b149c43f47e7a5acb90c60636c3c6369e33f15f2"), looks := false }, kinds := [], alts := [], laidByText := true, laidKinds := [.data, .data], laidTests := true, laidLooks := .later }
def MerkleVerifyCardSaid : Prop := Claim7.holds Tryd.pinned (.plain (OpenSpec.ofChange merkleVerifySpec)) merkleVerifyCard

/-- THE TIED CARD OF 'girolaw07.MerkleConsistency'. -/
def merkleConsistencyCard : Claim7 := { stood := { row := merkleConsistencyRow, standIns := [], harness := (true, "cda58d531a6b1f2b613861e5b149c43f47e7a5acb90c60636c3c6369e33f15f2"), looks := false }, kinds := [], alts := [], laidByText := true, laidKinds := [.data, .data], laidTests := true, laidLooks := .later }
def MerkleConsistencyCardSaid : Prop := Claim7.holds Tryd.pinned (.plain (OpenSpec.ofChange merkleConsistencySpec)) merkleConsistencyCard

/-- THE TIED CARD OF 'girolaw07.MerkleVerifyConsistency'. -/
def merkleVerifyConsistencyCard : Claim7 := { stood := { row := merkleVerifyConsistencyRow, standIns := [], harness := (true, "cda58d531a6b1f2b613861e5b149c43f47e7a5acb90c60636c3c6369e33f15f2"), looks := false }, kinds := [], alts := [], laidByText := true, laidKinds := [.data, .data], laidTests := true, laidLooks := .later }
def MerkleVerifyConsistencyCardSaid : Prop := Claim7.holds Tryd.pinned (.plain (OpenSpec.ofChange merkleVerifyConsistencySpec)) merkleVerifyConsistencyCard

/-- THE TIED CARD OF 'girolaw07.MerkleTrees'. -/
def merkleTreesCard : Claim7 := { stood := { row := merkleTreesRow, standIns := [], harness := (true, "cda58d531a6b1f2b613861e5b149c43f47e7a5acb90c60636c3c6369e33f15f2"), looks := false }, kinds := [], alts := [], laidByText := true, laidKinds := [.data, .data], laidTests := true, laidLooks := .later }
def MerkleTreesCardSaid : Prop := Claim7.holds Tryd.pinned (.plain (OpenSpec.ofChange merkleTreesSpec)) merkleTreesCard

/-- THE TIED CARD OF 'girolaw07.MerkleTampering'. -/
def merkleTamperingCard : Claim7 := { stood := { row := merkleTamperingRow, standIns := [], harness := (true, "cda58d531a6b1f2b613861e5b149c43f47e7a5acb90c60636c3c6369e33f15f2"), looks := false }, kinds := [], alts := [], laidByText := true, laidKinds := [.data, .data], laidTests := true, laidLooks := .later }
def MerkleTamperingCardSaid : Prop := Claim7.holds Tryd.pinned (.plain (OpenSpec.ofChange merkleTamperingSpec)) merkleTamperingCard

/-- THE SECOND FORM's CARD OF 'girolaw06.Sha256Sum'. -/
def sha256SumUptoCard : Claim7 := { stood := { row := sha256SumUptoRow, standIns := [], harness := (true, "cda58d531a6b1f2b613861e5b149c43f47e7a5acb90c60636c3c6369e33f15f2"), looks := false }, kinds := [], alts := [], laidByText := true, laidKinds := [.data, .data], laidTests := true, laidLooks := .later }
def Sha256SumUptoCardSaid : Prop := Claim7.holds Tryd.pinned (.plain (OpenSpec.upto sha256SumSpec)) sha256SumUptoCard

/-- THE SECOND FORM's CARD OF 'girolaw06.Sha256Lengths'. -/
def sha256LengthsUptoCard : Claim7 := { stood := { row := sha256LengthsUptoRow, standIns := [], harness := (true, "cda58d531a6b1f2b613861e5b149c43f47e7a5acb90c60636c3c6369e33f15f2"), looks := false }, kinds := [], alts := [], laidByText := true, laidKinds := [.data, .data], laidTests := true, laidLooks := .later }
def Sha256LengthsUptoCardSaid : Prop := Claim7.holds Tryd.pinned (.plain (OpenSpec.upto sha256LengthsSpec)) sha256LengthsUptoCard

/-- THE SECOND FORM's CARD OF 'girolaw06.Sha256Compress'. -/
def sha256CompressUptoCard : Claim7 := { stood := { row := sha256CompressUptoRow, standIns := [], harness := (true, "cda58d531a6b1f2b613861e5b149c43f47e7a5acb90c60636c3c6369e33f15f2"), looks := false }, kinds := [], alts := [], laidByText := true, laidKinds := [.data, .data], laidTests := true, laidLooks := .later }
def Sha256CompressUptoCardSaid : Prop := Claim7.holds Tryd.pinned (.plain (OpenSpec.upto sha256CompressSpec)) sha256CompressUptoCard

/-- THE SECOND FORM's CARD OF 'girolaw06.Sha256Hash'. -/
def sha256HashUptoCard : Claim7 := { stood := { row := sha256HashUptoRow, standIns := [], harness := (true, "cda58d531a6b1f2b613861e5b149c43f47e7a5acb90c60636c3c6369e33f15f2"), looks := false }, kinds := [], alts := [], laidByText := true, laidKinds := [.data, .data], laidTests := true, laidLooks := .later }
def Sha256HashUptoCardSaid : Prop := Claim7.holds Tryd.pinned (.plain (OpenSpec.upto sha256HashSpec)) sha256HashUptoCard

/-- THE SECOND FORM's CARD OF 'girolaw06.Sha256Pad'. -/
def sha256PadUptoCard : Claim7 := { stood := { row := sha256PadUptoRow, standIns := [], harness := (true, "cda58d531a6b1f2b613861e5b149c43f47e7a5acb90c60636c3c6369e33f15f2"), looks := false }, kinds := [], alts := [], laidByText := true, laidKinds := [.data, .data], laidTests := true, laidLooks := .later }
def Sha256PadUptoCardSaid : Prop := Claim7.holds Tryd.pinned (.plain (OpenSpec.upto sha256PadSpec)) sha256PadUptoCard

/-- THE SECOND FORM's CARD OF 'girolaw06.Sha256Blocks'. -/
def sha256BlocksUptoCard : Claim7 := { stood := { row := sha256BlocksUptoRow, standIns := [], harness := (true, "cda58d531a6b1f2b613861e5b149c43f47e7a5acb90c60636c3c6369e33f15f2"), looks := false }, kinds := [], alts := [], laidByText := true, laidKinds := [.data, .data], laidTests := true, laidLooks := .later }
def Sha256BlocksUptoCardSaid : Prop := Claim7.holds Tryd.pinned (.plain (OpenSpec.upto sha256BlocksSpec)) sha256BlocksUptoCard

/-- THE SECOND FORM's CARD OF 'girolaw06.Sha256Clone'. -/
def sha256CloneUptoCard : Claim7 := { stood := { row := sha256CloneUptoRow, standIns := [], harness := (true, "cda58d531a6b1f2b613861e5b149c43f47e7a5acb90c60636c3c6369e33f15f2"), looks := false }, kinds := [], alts := [], laidByText := true, laidKinds := [.data, .data], laidTests := true, laidLooks := .later }
def Sha256CloneUptoCardSaid : Prop := Claim7.holds Tryd.pinned (.plain (OpenSpec.upto sha256CloneSpec)) sha256CloneUptoCard

/-- THE SECOND FORM's CARD OF 'girolaw06.Sha256Text'. -/
def sha256TextUptoCard : Claim7 := { stood := { row := sha256TextUptoRow, standIns := [], harness := (true, "cda58d531a6b1f2b613861e5b149c43f47e7a5acb90c60636c3c6369e33f15f2"), looks := false }, kinds := [], alts := [], laidByText := true, laidKinds := [.data, .data], laidTests := true, laidLooks := .later }
def Sha256TextUptoCardSaid : Prop := Claim7.holds Tryd.pinned (.plain (OpenSpec.upto sha256TextSpec)) sha256TextUptoCard

/-- THE SECOND FORM's CARD OF 'girolaw07.MerkleHashes'. -/
def merkleHashesUptoCard : Claim7 := { stood := { row := merkleHashesUptoRow, standIns := [], harness := (true, "cda58d531a6b1f2b613861e5b149c43f47e7a5acb90c60636c3c6369e33f15f2"), looks := false }, kinds := [], alts := [], laidByText := true, laidKinds := [.data, .data], laidTests := true, laidLooks := .later }
def MerkleHashesUptoCardSaid : Prop := Claim7.holds Tryd.pinned (.plain (OpenSpec.upto merkleHashesSpec)) merkleHashesUptoCard

/-- THE SECOND FORM's CARD OF 'girolaw07.MerkleRoots'. -/
def merkleRootsUptoCard : Claim7 := { stood := { row := merkleRootsUptoRow, standIns := [], harness := (true, "cda58d531a6b1f2b613861e5b149c43f47e7a5acb90c60636c3c6369e33f15f2"), looks := false }, kinds := [], alts := [], laidByText := true, laidKinds := [.data, .data], laidTests := true, laidLooks := .later }
def MerkleRootsUptoCardSaid : Prop := Claim7.holds Tryd.pinned (.plain (OpenSpec.upto merkleRootsSpec)) merkleRootsUptoCard

/-- THE SECOND FORM's CARD OF 'girolaw07.MerkleProofs'. -/
def merkleProofsUptoCard : Claim7 := { stood := { row := merkleProofsUptoRow, standIns := [], harness := (true, "cda58d531a6b1f2b613861e5b149c43f47e7a5acb90c60636c3c6369e33f15f2"), looks := false }, kinds := [], alts := [], laidByText := true, laidKinds := [.data, .data], laidTests := true, laidLooks := .later }
def MerkleProofsUptoCardSaid : Prop := Claim7.holds Tryd.pinned (.plain (OpenSpec.upto merkleProofsSpec)) merkleProofsUptoCard

/-- THE SECOND FORM's CARD OF 'girolaw07.MerkleVerify'. -/
def merkleVerifyUptoCard : Claim7 := { stood := { row := merkleVerifyUptoRow, standIns := [], harness := (true, "cda58d531a6b1f2b613861e5b149c43f47e7a5acb90c60636c3c6369e33f15f2"), looks := false }, kinds := [], alts := [], laidByText := true, laidKinds := [.data, .data], laidTests := true, laidLooks := .later }
def MerkleVerifyUptoCardSaid : Prop := Claim7.holds Tryd.pinned (.plain (OpenSpec.upto merkleVerifySpec)) merkleVerifyUptoCard

/-- THE SECOND FORM's CARD OF 'girolaw07.MerkleConsistency'. -/
def merkleConsistencyUptoCard : Claim7 := { stood := { row := merkleConsistencyUptoRow, standIns := [], harness := (true, "cda58d531a6b1f2b613861e5b149c43f47e7a5acb90c60636c3c6369e33f15f2"), looks := false }, kinds := [], alts := [], laidByText := true, laidKinds := [.data, .data], laidTests := true, laidLooks := .later }
def MerkleConsistencyUptoCardSaid : Prop := Claim7.holds Tryd.pinned (.plain (OpenSpec.upto merkleConsistencySpec)) merkleConsistencyUptoCard

/-- THE SECOND FORM's CARD OF 'girolaw07.MerkleVerifyConsistency'. -/
def merkleVerifyConsistencyUptoCard : Claim7 := { stood := { row := merkleVerifyConsistencyUptoRow, standIns := [], harness := (true, "cda58d531a6b1f2b613861e5b149c43f47e7a5acb90c60636c3c6369e33f15f2"), looks := false }, kinds := [], alts := [], laidByText := true, laidKinds := [.data, .data], laidTests := true, laidLooks := .later }
def MerkleVerifyConsistencyUptoCardSaid : Prop := Claim7.holds Tryd.pinned (.plain (OpenSpec.upto merkleVerifyConsistencySpec)) merkleVerifyConsistencyUptoCard

/-- THE SECOND FORM's CARD OF 'girolaw07.MerkleTrees'. -/
def merkleTreesUptoCard : Claim7 := { stood := { row := merkleTreesUptoRow, standIns := [], harness := (true, "cda58d531a6b1f2b613861e5b149c43f47e7a5acb90c60636c3c6369e33f15f2"), looks := false }, kinds := [], alts := [], laidByText := true, laidKinds := [.data, .data], laidTests := true, laidLooks := .later }
def MerkleTreesUptoCardSaid : Prop := Claim7.holds Tryd.pinned (.plain (OpenSpec.upto merkleTreesSpec)) merkleTreesUptoCard

/-- THE SECOND FORM's CARD OF 'girolaw07.MerkleTampering'. -/
def merkleTamperingUptoCard : Claim7 := { stood := { row := merkleTamperingUptoRow, standIns := [], harness := (true, "cda58d531a6b1f2b613861e5b149c43f47e7a5acb90c60636c3c6369e33f15f2"), looks := false }, kinds := [], alts := [], laidByText := true, laidKinds := [.data, .data], laidTests := true, laidLooks := .later }
def MerkleTamperingUptoCardSaid : Prop := Claim7.holds Tryd.pinned (.plain (OpenSpec.upto merkleTamperingSpec)) merkleTamperingUptoCard
end Rows
end Go.Proofs.YtediocpdpghbfaaDoor
