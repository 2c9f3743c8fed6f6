/-
  NARROWER THAN 'FOR EVERY INPUT', by the rows' own cells (each row's printed sentence says how): FnSizes: laid · FnForged: laid · FnLane: laid · FnSum: laid · FnAgain: laid · FnNothing: laid · FnWhole: laid · FnPieces: laid · FnWrites: laid · FnTurns: laid · FnAppended: laid · FnTold: laid · FnSplit: laid · FnTimes: laid · FnCutState: laid · FnResumed: laid · FnRoads: laid · FnKept: laid.
  DERIVED. THE GIVEN ROWS OF THIS SEAT. 18 by the template 'for every input the law returns true; each argument reads behind the call as it read before'; 0 by the template 'total and deterministic' (their statements: YtmcjajeglmjghaaDoorTotals.lean).
  GIVEN WITH THE SEED: the statements are not yours to turn. If you find one false, say at which input.
  Laid BY PROGRAM, IN A SANDBOX (cutbox-rows.mjs): the forced cells as the released guide's own fill.sh prints them over the translation 8cc9ad2df475503a… (all of the seat's roots in one cut). By AI agents, Wed Nov 11 2026. No macro, syntax, notation, axiom, sorry.
-/
import Derived.Test.YtmcjajeglmjghaaDoorChecked
import GoSem.Claim
import GoSem.ClaimJoined
import GoSem.ClaimMapViews
import Derived.JoinedTies
import Derived.KernelRfl
namespace Go.Proofs.YtmcjajeglmjghaaDoor
/- THE CELL 'sum', in the pinned program and in every row, IS THE sha256 OF THE DUMP (.gsa) THAT YtmcjajeglmjghaaDoorProg.lean LOADS. Nothing in Lean hashes anything: it is a label: what it is worth is what the hold of that sum in a sandbox is worth. -/
noncomputable def Tryd.pinned : Pinned := { name := "ytmcjajeglmjghaadoor", sum := "8cc9ad2df475503aa9aedd3cd5291697bb8e13f7959fa512db187d517e7af219", checked := Tryd.checked }
namespace Rows
def none {H : Type} : Left H := { results := [], args := [] }

/- WHAT THE LISTED PACKAGE-LEVEL VARIABLES READ AS WHEN THE CALL BEGINS. Each datum BY PROGRAM (the guide's laid-datum.mjs) off the statement by which the dump's own 'gosem.cut.vars' lays the variable. In a bare row this is a premise. The card (YtmcjajeglmjghaaDoorCards.lean) ties it to the program's text. -/
def laid_stirwell_pub_esbuild_inner_xxhash_prime1v {H : Type} : DataW H := .lit (.int .u64 11400714785074694791)

/-- 'laws.FnSizes': WHATEVER THE INPUT: true; the input reads as it did. -/
def fnSizesSpec : ChangeSpec := { name := "fnSizes", fn := fun _ => fun
  | [d] => { results := [.lit (.bool true)], args := [d] }
  | _ => none }
def fnSizesRow : OpenClaim := { program := "ytmcjajeglmjghaadoor", sum := "8cc9ad2df475503aa9aedd3cd5291697bb8e13f7959fa512db187d517e7af219", func := "stirwell/laws.FnSizes", spec := "fnSizes", named := ["stirwell/pub/esbuild/inner/xxhash.prime1v", "encoding/binary.LittleEndian"], apart := false, laid := [("stirwell/pub/esbuild/inner/xxhash.prime1v", laid_stirwell_pub_esbuild_inner_xxhash_prime1v)] }
def FnSizesSaid : Prop := fnSizesRow.holds Tryd.pinned (OpenSpec.ofChange fnSizesSpec)

/-- ITS FALSE NEIGHBOUR: 'it returns false'. Refute it at one input. -/
def fnSizesWrong : ChangeSpec := { name := "fnSizes", fn := fun _ => fun
  | [d] => { results := [.lit (.bool false)], args := [d] }
  | _ => none }
def FnSizesWrongFalsely : Prop := fnSizesRow.holds Tryd.pinned (OpenSpec.ofChange fnSizesWrong)

/-- 'laws.FnForged': WHATEVER THE INPUT: true; the input reads as it did. -/
def fnForgedSpec : ChangeSpec := { name := "fnForged", fn := fun _ => fun
  | [d1, d2] => { results := [.lit (.bool true)], args := [d1, d2] }
  | _ => none }
def fnForgedRow : OpenClaim := { program := "ytmcjajeglmjghaadoor", sum := "8cc9ad2df475503aa9aedd3cd5291697bb8e13f7959fa512db187d517e7af219", func := "stirwell/laws.FnForged", spec := "fnForged", named := ["stirwell/pub/esbuild/inner/xxhash.prime1v", "encoding/binary.LittleEndian"], apart := false, laid := [("stirwell/pub/esbuild/inner/xxhash.prime1v", laid_stirwell_pub_esbuild_inner_xxhash_prime1v)] }
def FnForgedSaid : Prop := fnForgedRow.holds Tryd.pinned (OpenSpec.ofChange fnForgedSpec)

/-- ITS FALSE NEIGHBOUR: 'it returns false'. Refute it at one input. -/
def fnForgedWrong : ChangeSpec := { name := "fnForged", fn := fun _ => fun
  | [d1, d2] => { results := [.lit (.bool false)], args := [d1, d2] }
  | _ => none }
def FnForgedWrongFalsely : Prop := fnForgedRow.holds Tryd.pinned (OpenSpec.ofChange fnForgedWrong)

/-- 'laws.FnLane': WHATEVER THE INPUT: true; the input reads as it did. -/
def fnLaneSpec : ChangeSpec := { name := "fnLane", fn := fun _ => fun
  | [d1, d2, d3] => { results := [.lit (.bool true)], args := [d1, d2, d3] }
  | _ => none }
def fnLaneRow : OpenClaim := { program := "ytmcjajeglmjghaadoor", sum := "8cc9ad2df475503aa9aedd3cd5291697bb8e13f7959fa512db187d517e7af219", func := "stirwell/laws.FnLane", spec := "fnLane", named := ["stirwell/pub/esbuild/inner/xxhash.prime1v", "encoding/binary.LittleEndian"], apart := false, laid := [("stirwell/pub/esbuild/inner/xxhash.prime1v", laid_stirwell_pub_esbuild_inner_xxhash_prime1v)] }
def FnLaneSaid : Prop := fnLaneRow.holds Tryd.pinned (OpenSpec.ofChange fnLaneSpec)

/-- ITS FALSE NEIGHBOUR: 'it returns false'. Refute it at one input. -/
def fnLaneWrong : ChangeSpec := { name := "fnLane", fn := fun _ => fun
  | [d1, d2, d3] => { results := [.lit (.bool false)], args := [d1, d2, d3] }
  | _ => none }
def FnLaneWrongFalsely : Prop := fnLaneRow.holds Tryd.pinned (OpenSpec.ofChange fnLaneWrong)

/-- 'laws.FnSum': WHATEVER THE INPUT: true; the input reads as it did. -/
def fnSumSpec : ChangeSpec := { name := "fnSum", fn := fun _ => fun
  | [d] => { results := [.lit (.bool true)], args := [d] }
  | _ => none }
def fnSumRow : OpenClaim := { program := "ytmcjajeglmjghaadoor", sum := "8cc9ad2df475503aa9aedd3cd5291697bb8e13f7959fa512db187d517e7af219", func := "stirwell/laws.FnSum", spec := "fnSum", named := ["stirwell/pub/esbuild/inner/xxhash.prime1v", "encoding/binary.LittleEndian"], apart := false, laid := [("stirwell/pub/esbuild/inner/xxhash.prime1v", laid_stirwell_pub_esbuild_inner_xxhash_prime1v)] }
def FnSumSaid : Prop := fnSumRow.holds Tryd.pinned (OpenSpec.ofChange fnSumSpec)

/-- ITS FALSE NEIGHBOUR: 'it returns false'. Refute it at one input. -/
def fnSumWrong : ChangeSpec := { name := "fnSum", fn := fun _ => fun
  | [d] => { results := [.lit (.bool false)], args := [d] }
  | _ => none }
def FnSumWrongFalsely : Prop := fnSumRow.holds Tryd.pinned (OpenSpec.ofChange fnSumWrong)

/-- 'laws.FnAgain': WHATEVER THE INPUT: true; the input reads as it did. -/
def fnAgainSpec : ChangeSpec := { name := "fnAgain", fn := fun _ => fun
  | [d1, d2] => { results := [.lit (.bool true)], args := [d1, d2] }
  | _ => none }
def fnAgainRow : OpenClaim := { program := "ytmcjajeglmjghaadoor", sum := "8cc9ad2df475503aa9aedd3cd5291697bb8e13f7959fa512db187d517e7af219", func := "stirwell/laws.FnAgain", spec := "fnAgain", named := ["stirwell/pub/esbuild/inner/xxhash.prime1v", "encoding/binary.LittleEndian"], apart := false, laid := [("stirwell/pub/esbuild/inner/xxhash.prime1v", laid_stirwell_pub_esbuild_inner_xxhash_prime1v)] }
def FnAgainSaid : Prop := fnAgainRow.holds Tryd.pinned (OpenSpec.ofChange fnAgainSpec)

/-- ITS FALSE NEIGHBOUR: 'it returns false'. Refute it at one input. -/
def fnAgainWrong : ChangeSpec := { name := "fnAgain", fn := fun _ => fun
  | [d1, d2] => { results := [.lit (.bool false)], args := [d1, d2] }
  | _ => none }
def FnAgainWrongFalsely : Prop := fnAgainRow.holds Tryd.pinned (OpenSpec.ofChange fnAgainWrong)

/-- 'laws.FnNothing': WHATEVER THE INPUT: true; the input reads as it did. -/
def fnNothingSpec : ChangeSpec := { name := "fnNothing", fn := fun _ => fun
  | [d] => { results := [.lit (.bool true)], args := [d] }
  | _ => none }
def fnNothingRow : OpenClaim := { program := "ytmcjajeglmjghaadoor", sum := "8cc9ad2df475503aa9aedd3cd5291697bb8e13f7959fa512db187d517e7af219", func := "stirwell/laws.FnNothing", spec := "fnNothing", named := ["stirwell/pub/esbuild/inner/xxhash.prime1v", "encoding/binary.LittleEndian"], apart := false, laid := [("stirwell/pub/esbuild/inner/xxhash.prime1v", laid_stirwell_pub_esbuild_inner_xxhash_prime1v)] }
def FnNothingSaid : Prop := fnNothingRow.holds Tryd.pinned (OpenSpec.ofChange fnNothingSpec)

/-- ITS FALSE NEIGHBOUR: 'it returns false'. Refute it at one input. -/
def fnNothingWrong : ChangeSpec := { name := "fnNothing", fn := fun _ => fun
  | [d] => { results := [.lit (.bool false)], args := [d] }
  | _ => none }
def FnNothingWrongFalsely : Prop := fnNothingRow.holds Tryd.pinned (OpenSpec.ofChange fnNothingWrong)

/-- 'laws.FnWhole': WHATEVER THE INPUT: true; the input reads as it did. -/
def fnWholeSpec : ChangeSpec := { name := "fnWhole", fn := fun _ => fun
  | [d] => { results := [.lit (.bool true)], args := [d] }
  | _ => none }
def fnWholeRow : OpenClaim := { program := "ytmcjajeglmjghaadoor", sum := "8cc9ad2df475503aa9aedd3cd5291697bb8e13f7959fa512db187d517e7af219", func := "stirwell/laws.FnWhole", spec := "fnWhole", named := ["stirwell/pub/esbuild/inner/xxhash.prime1v", "encoding/binary.LittleEndian"], apart := false, laid := [("stirwell/pub/esbuild/inner/xxhash.prime1v", laid_stirwell_pub_esbuild_inner_xxhash_prime1v)] }
def FnWholeSaid : Prop := fnWholeRow.holds Tryd.pinned (OpenSpec.ofChange fnWholeSpec)

/-- ITS FALSE NEIGHBOUR: 'it returns false'. Refute it at one input. -/
def fnWholeWrong : ChangeSpec := { name := "fnWhole", fn := fun _ => fun
  | [d] => { results := [.lit (.bool false)], args := [d] }
  | _ => none }
def FnWholeWrongFalsely : Prop := fnWholeRow.holds Tryd.pinned (OpenSpec.ofChange fnWholeWrong)

/-- 'laws.FnPieces': WHATEVER THE INPUT: true; the input reads as it did. -/
def fnPiecesSpec : ChangeSpec := { name := "fnPieces", fn := fun _ => fun
  | [d] => { results := [.lit (.bool true)], args := [d] }
  | _ => none }
def fnPiecesRow : OpenClaim := { program := "ytmcjajeglmjghaadoor", sum := "8cc9ad2df475503aa9aedd3cd5291697bb8e13f7959fa512db187d517e7af219", func := "stirwell/laws.FnPieces", spec := "fnPieces", named := ["stirwell/pub/esbuild/inner/xxhash.prime1v", "encoding/binary.LittleEndian"], apart := false, laid := [("stirwell/pub/esbuild/inner/xxhash.prime1v", laid_stirwell_pub_esbuild_inner_xxhash_prime1v)] }
def FnPiecesSaid : Prop := fnPiecesRow.holds Tryd.pinned (OpenSpec.ofChange fnPiecesSpec)

/-- ITS FALSE NEIGHBOUR: 'it returns false'. Refute it at one input. -/
def fnPiecesWrong : ChangeSpec := { name := "fnPieces", fn := fun _ => fun
  | [d] => { results := [.lit (.bool false)], args := [d] }
  | _ => none }
def FnPiecesWrongFalsely : Prop := fnPiecesRow.holds Tryd.pinned (OpenSpec.ofChange fnPiecesWrong)

/-- 'laws.FnWrites': WHATEVER THE INPUT: true; the input reads as it did. -/
def fnWritesSpec : ChangeSpec := { name := "fnWrites", fn := fun _ => fun
  | [d] => { results := [.lit (.bool true)], args := [d] }
  | _ => none }
def fnWritesRow : OpenClaim := { program := "ytmcjajeglmjghaadoor", sum := "8cc9ad2df475503aa9aedd3cd5291697bb8e13f7959fa512db187d517e7af219", func := "stirwell/laws.FnWrites", spec := "fnWrites", named := ["stirwell/pub/esbuild/inner/xxhash.prime1v", "encoding/binary.LittleEndian"], apart := false, laid := [("stirwell/pub/esbuild/inner/xxhash.prime1v", laid_stirwell_pub_esbuild_inner_xxhash_prime1v)] }
def FnWritesSaid : Prop := fnWritesRow.holds Tryd.pinned (OpenSpec.ofChange fnWritesSpec)

/-- ITS FALSE NEIGHBOUR: 'it returns false'. Refute it at one input. -/
def fnWritesWrong : ChangeSpec := { name := "fnWrites", fn := fun _ => fun
  | [d] => { results := [.lit (.bool false)], args := [d] }
  | _ => none }
def FnWritesWrongFalsely : Prop := fnWritesRow.holds Tryd.pinned (OpenSpec.ofChange fnWritesWrong)

/-- 'laws.FnTurns': WHATEVER THE INPUT: true; the input reads as it did. -/
def fnTurnsSpec : ChangeSpec := { name := "fnTurns", fn := fun _ => fun
  | [d1, d2] => { results := [.lit (.bool true)], args := [d1, d2] }
  | _ => none }
def fnTurnsRow : OpenClaim := { program := "ytmcjajeglmjghaadoor", sum := "8cc9ad2df475503aa9aedd3cd5291697bb8e13f7959fa512db187d517e7af219", func := "stirwell/laws.FnTurns", spec := "fnTurns", named := ["stirwell/pub/esbuild/inner/xxhash.prime1v", "encoding/binary.LittleEndian"], apart := false, laid := [("stirwell/pub/esbuild/inner/xxhash.prime1v", laid_stirwell_pub_esbuild_inner_xxhash_prime1v)] }
def FnTurnsSaid : Prop := fnTurnsRow.holds Tryd.pinned (OpenSpec.ofChange fnTurnsSpec)

/-- ITS FALSE NEIGHBOUR: 'it returns false'. Refute it at one input. -/
def fnTurnsWrong : ChangeSpec := { name := "fnTurns", fn := fun _ => fun
  | [d1, d2] => { results := [.lit (.bool false)], args := [d1, d2] }
  | _ => none }
def FnTurnsWrongFalsely : Prop := fnTurnsRow.holds Tryd.pinned (OpenSpec.ofChange fnTurnsWrong)

/-- 'laws.FnAppended': WHATEVER THE INPUT: true; the input reads as it did. -/
def fnAppendedSpec : ChangeSpec := { name := "fnAppended", fn := fun _ => fun
  | [d1, d2] => { results := [.lit (.bool true)], args := [d1, d2] }
  | _ => none }
def fnAppendedRow : OpenClaim := { program := "ytmcjajeglmjghaadoor", sum := "8cc9ad2df475503aa9aedd3cd5291697bb8e13f7959fa512db187d517e7af219", func := "stirwell/laws.FnAppended", spec := "fnAppended", named := ["stirwell/pub/esbuild/inner/xxhash.prime1v", "encoding/binary.LittleEndian"], apart := false, laid := [("stirwell/pub/esbuild/inner/xxhash.prime1v", laid_stirwell_pub_esbuild_inner_xxhash_prime1v)] }
def FnAppendedSaid : Prop := fnAppendedRow.holds Tryd.pinned (OpenSpec.ofChange fnAppendedSpec)

/-- ITS FALSE NEIGHBOUR: 'it returns false'. Refute it at one input. -/
def fnAppendedWrong : ChangeSpec := { name := "fnAppended", fn := fun _ => fun
  | [d1, d2] => { results := [.lit (.bool false)], args := [d1, d2] }
  | _ => none }
def FnAppendedWrongFalsely : Prop := fnAppendedRow.holds Tryd.pinned (OpenSpec.ofChange fnAppendedWrong)

/-- 'laws.FnTold': WHATEVER THE INPUT: true; the input reads as it did. -/
def fnToldSpec : ChangeSpec := { name := "fnTold", fn := fun _ => fun
  | [d1, d2] => { results := [.lit (.bool true)], args := [d1, d2] }
  | _ => none }
def fnToldRow : OpenClaim := { program := "ytmcjajeglmjghaadoor", sum := "8cc9ad2df475503aa9aedd3cd5291697bb8e13f7959fa512db187d517e7af219", func := "stirwell/laws.FnTold", spec := "fnTold", named := ["stirwell/pub/esbuild/inner/xxhash.prime1v", "encoding/binary.LittleEndian"], apart := false, laid := [("stirwell/pub/esbuild/inner/xxhash.prime1v", laid_stirwell_pub_esbuild_inner_xxhash_prime1v)] }
def FnToldSaid : Prop := fnToldRow.holds Tryd.pinned (OpenSpec.ofChange fnToldSpec)

/-- ITS FALSE NEIGHBOUR: 'it returns false'. Refute it at one input. -/
def fnToldWrong : ChangeSpec := { name := "fnTold", fn := fun _ => fun
  | [d1, d2] => { results := [.lit (.bool false)], args := [d1, d2] }
  | _ => none }
def FnToldWrongFalsely : Prop := fnToldRow.holds Tryd.pinned (OpenSpec.ofChange fnToldWrong)

/-- 'laws.FnSplit': WHATEVER THE INPUT: true; the input reads as it did. -/
def fnSplitSpec : ChangeSpec := { name := "fnSplit", fn := fun _ => fun
  | [d1, d2, d3] => { results := [.lit (.bool true)], args := [d1, d2, d3] }
  | _ => none }
def fnSplitRow : OpenClaim := { program := "ytmcjajeglmjghaadoor", sum := "8cc9ad2df475503aa9aedd3cd5291697bb8e13f7959fa512db187d517e7af219", func := "stirwell/laws.FnSplit", spec := "fnSplit", named := ["stirwell/pub/esbuild/inner/xxhash.prime1v", "encoding/binary.LittleEndian"], apart := false, laid := [("stirwell/pub/esbuild/inner/xxhash.prime1v", laid_stirwell_pub_esbuild_inner_xxhash_prime1v)] }
def FnSplitSaid : Prop := fnSplitRow.holds Tryd.pinned (OpenSpec.ofChange fnSplitSpec)

/-- ITS FALSE NEIGHBOUR: 'it returns false'. Refute it at one input. -/
def fnSplitWrong : ChangeSpec := { name := "fnSplit", fn := fun _ => fun
  | [d1, d2, d3] => { results := [.lit (.bool false)], args := [d1, d2, d3] }
  | _ => none }
def FnSplitWrongFalsely : Prop := fnSplitRow.holds Tryd.pinned (OpenSpec.ofChange fnSplitWrong)

/-- 'laws.FnTimes': WHATEVER THE INPUT: true; the input reads as it did. -/
def fnTimesSpec : ChangeSpec := { name := "fnTimes", fn := fun _ => fun
  | [d1, d2] => { results := [.lit (.bool true)], args := [d1, d2] }
  | _ => none }
def fnTimesRow : OpenClaim := { program := "ytmcjajeglmjghaadoor", sum := "8cc9ad2df475503aa9aedd3cd5291697bb8e13f7959fa512db187d517e7af219", func := "stirwell/laws.FnTimes", spec := "fnTimes", named := ["stirwell/pub/esbuild/inner/xxhash.prime1v", "encoding/binary.LittleEndian"], apart := false, laid := [("stirwell/pub/esbuild/inner/xxhash.prime1v", laid_stirwell_pub_esbuild_inner_xxhash_prime1v)] }
def FnTimesSaid : Prop := fnTimesRow.holds Tryd.pinned (OpenSpec.ofChange fnTimesSpec)

/-- ITS FALSE NEIGHBOUR: 'it returns false'. Refute it at one input. -/
def fnTimesWrong : ChangeSpec := { name := "fnTimes", fn := fun _ => fun
  | [d1, d2] => { results := [.lit (.bool false)], args := [d1, d2] }
  | _ => none }
def FnTimesWrongFalsely : Prop := fnTimesRow.holds Tryd.pinned (OpenSpec.ofChange fnTimesWrong)

/-- 'laws.FnCutState': WHATEVER THE INPUT: true; the input reads as it did. -/
def fnCutStateSpec : ChangeSpec := { name := "fnCutState", fn := fun _ => fun
  | [d1, d2, d3] => { results := [.lit (.bool true)], args := [d1, d2, d3] }
  | _ => none }
def fnCutStateRow : OpenClaim := { program := "ytmcjajeglmjghaadoor", sum := "8cc9ad2df475503aa9aedd3cd5291697bb8e13f7959fa512db187d517e7af219", func := "stirwell/laws.FnCutState", spec := "fnCutState", named := ["stirwell/pub/esbuild/inner/xxhash.prime1v", "encoding/binary.LittleEndian"], apart := false, laid := [("stirwell/pub/esbuild/inner/xxhash.prime1v", laid_stirwell_pub_esbuild_inner_xxhash_prime1v)] }
def FnCutStateSaid : Prop := fnCutStateRow.holds Tryd.pinned (OpenSpec.ofChange fnCutStateSpec)

/-- ITS FALSE NEIGHBOUR: 'it returns false'. Refute it at one input. -/
def fnCutStateWrong : ChangeSpec := { name := "fnCutState", fn := fun _ => fun
  | [d1, d2, d3] => { results := [.lit (.bool false)], args := [d1, d2, d3] }
  | _ => none }
def FnCutStateWrongFalsely : Prop := fnCutStateRow.holds Tryd.pinned (OpenSpec.ofChange fnCutStateWrong)

/-- 'laws.FnResumed': WHATEVER THE INPUT: true; the input reads as it did. -/
def fnResumedSpec : ChangeSpec := { name := "fnResumed", fn := fun _ => fun
  | [d1, d2, d3] => { results := [.lit (.bool true)], args := [d1, d2, d3] }
  | _ => none }
def fnResumedRow : OpenClaim := { program := "ytmcjajeglmjghaadoor", sum := "8cc9ad2df475503aa9aedd3cd5291697bb8e13f7959fa512db187d517e7af219", func := "stirwell/laws.FnResumed", spec := "fnResumed", named := ["stirwell/pub/esbuild/inner/xxhash.prime1v", "encoding/binary.LittleEndian"], apart := false, laid := [("stirwell/pub/esbuild/inner/xxhash.prime1v", laid_stirwell_pub_esbuild_inner_xxhash_prime1v)] }
def FnResumedSaid : Prop := fnResumedRow.holds Tryd.pinned (OpenSpec.ofChange fnResumedSpec)

/-- ITS FALSE NEIGHBOUR: 'it returns false'. Refute it at one input. -/
def fnResumedWrong : ChangeSpec := { name := "fnResumed", fn := fun _ => fun
  | [d1, d2, d3] => { results := [.lit (.bool false)], args := [d1, d2, d3] }
  | _ => none }
def FnResumedWrongFalsely : Prop := fnResumedRow.holds Tryd.pinned (OpenSpec.ofChange fnResumedWrong)

/-- 'laws.FnRoads': WHATEVER THE INPUT: true; the input reads as it did. -/
def fnRoadsSpec : ChangeSpec := { name := "fnRoads", fn := fun _ => fun
  | [d] => { results := [.lit (.bool true)], args := [d] }
  | _ => none }
def fnRoadsRow : OpenClaim := { program := "ytmcjajeglmjghaadoor", sum := "8cc9ad2df475503aa9aedd3cd5291697bb8e13f7959fa512db187d517e7af219", func := "stirwell/laws.FnRoads", spec := "fnRoads", named := ["stirwell/pub/esbuild/inner/xxhash.prime1v", "encoding/binary.LittleEndian"], apart := false, laid := [("stirwell/pub/esbuild/inner/xxhash.prime1v", laid_stirwell_pub_esbuild_inner_xxhash_prime1v)] }
def FnRoadsSaid : Prop := fnRoadsRow.holds Tryd.pinned (OpenSpec.ofChange fnRoadsSpec)

/-- ITS FALSE NEIGHBOUR: 'it returns false'. Refute it at one input. -/
def fnRoadsWrong : ChangeSpec := { name := "fnRoads", fn := fun _ => fun
  | [d] => { results := [.lit (.bool false)], args := [d] }
  | _ => none }
def FnRoadsWrongFalsely : Prop := fnRoadsRow.holds Tryd.pinned (OpenSpec.ofChange fnRoadsWrong)

/-- 'laws.FnKept': WHATEVER THE INPUT: true; the input reads as it did. -/
def fnKeptSpec : ChangeSpec := { name := "fnKept", fn := fun _ => fun
  | [d] => { results := [.lit (.bool true)], args := [d] }
  | _ => none }
def fnKeptRow : OpenClaim := { program := "ytmcjajeglmjghaadoor", sum := "8cc9ad2df475503aa9aedd3cd5291697bb8e13f7959fa512db187d517e7af219", func := "stirwell/laws.FnKept", spec := "fnKept", named := ["stirwell/pub/esbuild/inner/xxhash.prime1v", "encoding/binary.LittleEndian"], apart := false, laid := [("stirwell/pub/esbuild/inner/xxhash.prime1v", laid_stirwell_pub_esbuild_inner_xxhash_prime1v)] }
def FnKeptSaid : Prop := fnKeptRow.holds Tryd.pinned (OpenSpec.ofChange fnKeptSpec)

/-- ITS FALSE NEIGHBOUR: 'it returns false'. Refute it at one input. -/
def fnKeptWrong : ChangeSpec := { name := "fnKept", fn := fun _ => fun
  | [d] => { results := [.lit (.bool false)], args := [d] }
  | _ => none }
def FnKeptWrongFalsely : Prop := fnKeptRow.holds Tryd.pinned (OpenSpec.ofChange fnKeptWrong)

/- THE SECOND FORM. 'bulk': how many values and letters a reading holds, each counted each time it is reached (what is shared counts as often as it is met; a slice's spare places count too). A statement '..UptoSaid' is the law's where the arguments, and the package variables that the reading takes, are together of bulk at most 1048576: NARROWER than '..Said'. Prove '..Said' where nothing that the law and all that it calls make is longer than what came in: it says more and counts as full. Else prove '..UptoSaid'. A law counts once. -/
mutual
def uptoBulk {H : Type} : DataW H → Nat
  | .lit (.string bytes) => bytes.length + 1
  | .lit _ => 1
  | .nil => 1
  | .ptr d => uptoBulk d + 1
  | .slice elems spare => uptoBulkAll elems + uptoBulkAll spare + 1
  | .agg parts => uptoBulkAll parts + 1
  | .iface _ d => uptoBulk d + 1
  | .map entries => uptoBulkEntries entries + 1
  | .held _ => 1
def uptoBulkAll {H : Type} : List (DataW H) → Nat
  | [] => 0
  | d :: r => uptoBulk d + uptoBulkAll r
def uptoBulkEntries {H : Type} : List (Lit × DataW H) → Nat
  | [] => 0
  | x :: r => uptoBulkEntry x + uptoBulkEntries r
def uptoBulkEntry {H : Type} : Lit × DataW H → Nat
  | (.string bytes, d) => bytes.length + uptoBulk d + 1
  | (_, d) => uptoBulk d + 1
 end
def uptoSmall : (H : Type) → List (DataW H) → Bool := fun _ ds => decide (uptoBulkAll ds ≤ 1048576)
def OpenSpec.upto (s : _root_.Go.ChangeSpec) : _root_.Go.OpenSpec := { _root_.Go.OpenSpec.ofChange s with cond := some uptoSmall }

/-- 'laws.FnSizes', WHERE WHAT IT READS IS OF BULK AT MOST 1048576: true; the input reads as it did. -/
def fnSizesUptoRow : OpenClaim := { program := "ytmcjajeglmjghaadoor", sum := "8cc9ad2df475503aa9aedd3cd5291697bb8e13f7959fa512db187d517e7af219", func := "stirwell/laws.FnSizes", spec := "fnSizes", named := ["stirwell/pub/esbuild/inner/xxhash.prime1v", "encoding/binary.LittleEndian"], apart := false, laid := [("stirwell/pub/esbuild/inner/xxhash.prime1v", laid_stirwell_pub_esbuild_inner_xxhash_prime1v)], narrowed := true }
def FnSizesUptoSaid : Prop := fnSizesUptoRow.holds Tryd.pinned (OpenSpec.upto fnSizesSpec)

/-- 'laws.FnForged', WHERE WHAT IT READS IS OF BULK AT MOST 1048576: true; the input reads as it did. -/
def fnForgedUptoRow : OpenClaim := { program := "ytmcjajeglmjghaadoor", sum := "8cc9ad2df475503aa9aedd3cd5291697bb8e13f7959fa512db187d517e7af219", func := "stirwell/laws.FnForged", spec := "fnForged", named := ["stirwell/pub/esbuild/inner/xxhash.prime1v", "encoding/binary.LittleEndian"], apart := false, laid := [("stirwell/pub/esbuild/inner/xxhash.prime1v", laid_stirwell_pub_esbuild_inner_xxhash_prime1v)], narrowed := true }
def FnForgedUptoSaid : Prop := fnForgedUptoRow.holds Tryd.pinned (OpenSpec.upto fnForgedSpec)

/-- 'laws.FnLane', WHERE WHAT IT READS IS OF BULK AT MOST 1048576: true; the input reads as it did. -/
def fnLaneUptoRow : OpenClaim := { program := "ytmcjajeglmjghaadoor", sum := "8cc9ad2df475503aa9aedd3cd5291697bb8e13f7959fa512db187d517e7af219", func := "stirwell/laws.FnLane", spec := "fnLane", named := ["stirwell/pub/esbuild/inner/xxhash.prime1v", "encoding/binary.LittleEndian"], apart := false, laid := [("stirwell/pub/esbuild/inner/xxhash.prime1v", laid_stirwell_pub_esbuild_inner_xxhash_prime1v)], narrowed := true }
def FnLaneUptoSaid : Prop := fnLaneUptoRow.holds Tryd.pinned (OpenSpec.upto fnLaneSpec)

/-- 'laws.FnSum', WHERE WHAT IT READS IS OF BULK AT MOST 1048576: true; the input reads as it did. -/
def fnSumUptoRow : OpenClaim := { program := "ytmcjajeglmjghaadoor", sum := "8cc9ad2df475503aa9aedd3cd5291697bb8e13f7959fa512db187d517e7af219", func := "stirwell/laws.FnSum", spec := "fnSum", named := ["stirwell/pub/esbuild/inner/xxhash.prime1v", "encoding/binary.LittleEndian"], apart := false, laid := [("stirwell/pub/esbuild/inner/xxhash.prime1v", laid_stirwell_pub_esbuild_inner_xxhash_prime1v)], narrowed := true }
def FnSumUptoSaid : Prop := fnSumUptoRow.holds Tryd.pinned (OpenSpec.upto fnSumSpec)

/-- 'laws.FnAgain', WHERE WHAT IT READS IS OF BULK AT MOST 1048576: true; the input reads as it did. -/
def fnAgainUptoRow : OpenClaim := { program := "ytmcjajeglmjghaadoor", sum := "8cc9ad2df475503aa9aedd3cd5291697bb8e13f7959fa512db187d517e7af219", func := "stirwell/laws.FnAgain", spec := "fnAgain", named := ["stirwell/pub/esbuild/inner/xxhash.prime1v", "encoding/binary.LittleEndian"], apart := false, laid := [("stirwell/pub/esbuild/inner/xxhash.prime1v", laid_stirwell_pub_esbuild_inner_xxhash_prime1v)], narrowed := true }
def FnAgainUptoSaid : Prop := fnAgainUptoRow.holds Tryd.pinned (OpenSpec.upto fnAgainSpec)

/-- 'laws.FnNothing', WHERE WHAT IT READS IS OF BULK AT MOST 1048576: true; the input reads as it did. -/
def fnNothingUptoRow : OpenClaim := { program := "ytmcjajeglmjghaadoor", sum := "8cc9ad2df475503aa9aedd3cd5291697bb8e13f7959fa512db187d517e7af219", func := "stirwell/laws.FnNothing", spec := "fnNothing", named := ["stirwell/pub/esbuild/inner/xxhash.prime1v", "encoding/binary.LittleEndian"], apart := false, laid := [("stirwell/pub/esbuild/inner/xxhash.prime1v", laid_stirwell_pub_esbuild_inner_xxhash_prime1v)], narrowed := true }
def FnNothingUptoSaid : Prop := fnNothingUptoRow.holds Tryd.pinned (OpenSpec.upto fnNothingSpec)

/-- 'laws.FnWhole', WHERE WHAT IT READS IS OF BULK AT MOST 1048576: true; the input reads as it did. -/
def fnWholeUptoRow : OpenClaim := { program := "ytmcjajeglmjghaadoor", sum := "8cc9ad2df475503aa9aedd3cd5291697bb8e13f7959fa512db187d517e7af219", func := "stirwell/laws.FnWhole", spec := "fnWhole", named := ["stirwell/pub/esbuild/inner/xxhash.prime1v", "encoding/binary.LittleEndian"], apart := false, laid := [("stirwell/pub/esbuild/inner/xxhash.prime1v", laid_stirwell_pub_esbuild_inner_xxhash_prime1v)], narrowed := true }
def FnWholeUptoSaid : Prop := fnWholeUptoRow.holds Tryd.pinned (OpenSpec.upto fnWholeSpec)

/-- 'laws.FnPieces', WHERE WHAT IT READS IS OF BULK AT MOST 1048576: true; the input reads as it did. -/
def fnPiecesUptoRow : OpenClaim := { program := "ytmcjajeglmjghaadoor", sum := "8cc9ad2df475503aa9aedd3cd5291697bb8e13f7959fa512db187d517e7af219", func := "stirwell/laws.FnPieces", spec := "fnPieces", named := ["stirwell/pub/esbuild/inner/xxhash.prime1v", "encoding/binary.LittleEndian"], apart := false, laid := [("stirwell/pub/esbuild/inner/xxhash.prime1v", laid_stirwell_pub_esbuild_inner_xxhash_prime1v)], narrowed := true }
def FnPiecesUptoSaid : Prop := fnPiecesUptoRow.holds Tryd.pinned (OpenSpec.upto fnPiecesSpec)

/-- 'laws.FnWrites', WHERE WHAT IT READS IS OF BULK AT MOST 1048576: true; the input reads as it did. -/
def fnWritesUptoRow : OpenClaim := { program := "ytmcjajeglmjghaadoor", sum := "8cc9ad2df475503aa9aedd3cd5291697bb8e13f7959fa512db187d517e7af219", func := "stirwell/laws.FnWrites", spec := "fnWrites", named := ["stirwell/pub/esbuild/inner/xxhash.prime1v", "encoding/binary.LittleEndian"], apart := false, laid := [("stirwell/pub/esbuild/inner/xxhash.prime1v", laid_stirwell_pub_esbuild_inner_xxhash_prime1v)], narrowed := true }
def FnWritesUptoSaid : Prop := fnWritesUptoRow.holds Tryd.pinned (OpenSpec.upto fnWritesSpec)

/-- 'laws.FnTurns', WHERE WHAT IT READS IS OF BULK AT MOST 1048576: true; the input reads as it did. -/
def fnTurnsUptoRow : OpenClaim := { program := "ytmcjajeglmjghaadoor", sum := "8cc9ad2df475503aa9aedd3cd5291697bb8e13f7959fa512db187d517e7af219", func := "stirwell/laws.FnTurns", spec := "fnTurns", named := ["stirwell/pub/esbuild/inner/xxhash.prime1v", "encoding/binary.LittleEndian"], apart := false, laid := [("stirwell/pub/esbuild/inner/xxhash.prime1v", laid_stirwell_pub_esbuild_inner_xxhash_prime1v)], narrowed := true }
def FnTurnsUptoSaid : Prop := fnTurnsUptoRow.holds Tryd.pinned (OpenSpec.upto fnTurnsSpec)

/-- 'laws.FnAppended', WHERE WHAT IT READS IS OF BULK AT MOST 1048576: true; the input reads as it did. -/
def fnAppendedUptoRow : OpenClaim := { program := "ytmcjajeglmjghaadoor", sum := "8cc9ad2df475503aa9aedd3cd5291697bb8e13f7959fa512db187d517e7af219", func := "stirwell/laws.FnAppended", spec := "fnAppended", named := ["stirwell/pub/esbuild/inner/xxhash.prime1v", "encoding/binary.LittleEndian"], apart := false, laid := [("stirwell/pub/esbuild/inner/xxhash.prime1v", laid_stirwell_pub_esbuild_inner_xxhash_prime1v)], narrowed := true }
def FnAppendedUptoSaid : Prop := fnAppendedUptoRow.holds Tryd.pinned (OpenSpec.upto fnAppendedSpec)

/-- 'laws.FnTold', WHERE WHAT IT READS IS OF BULK AT MOST 1048576: true; the input reads as it did. -/
def fnToldUptoRow : OpenClaim := { program := "ytmcjajeglmjghaadoor", sum := "8cc9ad2df475503aa9aedd3cd5291697bb8e13f7959fa512db187d517e7af219", func := "stirwell/laws.FnTold", spec := "fnTold", named := ["stirwell/pub/esbuild/inner/xxhash.prime1v", "encoding/binary.LittleEndian"], apart := false, laid := [("stirwell/pub/esbuild/inner/xxhash.prime1v", laid_stirwell_pub_esbuild_inner_xxhash_prime1v)], narrowed := true }
def FnToldUptoSaid : Prop := fnToldUptoRow.holds Tryd.pinned (OpenSpec.upto fnToldSpec)

/-- 'laws.FnSplit', WHERE WHAT IT READS IS OF BULK AT MOST 1048576: true; the input reads as it did. -/
def fnSplitUptoRow : OpenClaim := { program := "ytmcjajeglmjghaadoor", sum := "8cc9ad2df475503aa9aedd3cd5291697bb8e13f7959fa512db187d517e7af219", func := "stirwell/laws.FnSplit", spec := "fnSplit", named := ["stirwell/pub/esbuild/inner/xxhash.prime1v", "encoding/binary.LittleEndian"], apart := false, laid := [("stirwell/pub/esbuild/inner/xxhash.prime1v", laid_stirwell_pub_esbuild_inner_xxhash_prime1v)], narrowed := true }
def FnSplitUptoSaid : Prop := fnSplitUptoRow.holds Tryd.pinned (OpenSpec.upto fnSplitSpec)

/-- 'laws.FnTimes', WHERE WHAT IT READS IS OF BULK AT MOST 1048576: true; the input reads as it did. -/
def fnTimesUptoRow : OpenClaim := { program := "ytmcjajeglmjghaadoor", sum := "8cc9ad2df475503aa9aedd3cd5291697bb8e13f7959fa512db187d517e7af219", func := "stirwell/laws.FnTimes", spec := "fnTimes", named := ["stirwell/pub/esbuild/inner/xxhash.prime1v", "encoding/binary.LittleEndian"], apart := false, laid := [("stirwell/pub/esbuild/inner/xxhash.prime1v", laid_stirwell_pub_esbuild_inner_xxhash_prime1v)], narrowed := true }
def FnTimesUptoSaid : Prop := fnTimesUptoRow.holds Tryd.pinned (OpenSpec.upto fnTimesSpec)

/-- 'laws.FnCutState', WHERE WHAT IT READS IS OF BULK AT MOST 1048576: true; the input reads as it did. -/
def fnCutStateUptoRow : OpenClaim := { program := "ytmcjajeglmjghaadoor", sum := "8cc9ad2df475503aa9aedd3cd5291697bb8e13f7959fa512db187d517e7af219", func := "stirwell/laws.FnCutState", spec := "fnCutState", named := ["stirwell/pub/esbuild/inner/xxhash.prime1v", "encoding/binary.LittleEndian"], apart := false, laid := [("stirwell/pub/esbuild/inner/xxhash.prime1v", laid_stirwell_pub_esbuild_inner_xxhash_prime1v)], narrowed := true }
def FnCutStateUptoSaid : Prop := fnCutStateUptoRow.holds Tryd.pinned (OpenSpec.upto fnCutStateSpec)

/-- 'laws.FnResumed', WHERE WHAT IT READS IS OF BULK AT MOST 1048576: true; the input reads as it did. -/
def fnResumedUptoRow : OpenClaim := { program := "ytmcjajeglmjghaadoor", sum := "8cc9ad2df475503aa9aedd3cd5291697bb8e13f7959fa512db187d517e7af219", func := "stirwell/laws.FnResumed", spec := "fnResumed", named := ["stirwell/pub/esbuild/inner/xxhash.prime1v", "encoding/binary.LittleEndian"], apart := false, laid := [("stirwell/pub/esbuild/inner/xxhash.prime1v", laid_stirwell_pub_esbuild_inner_xxhash_prime1v)], narrowed := true }
def FnResumedUptoSaid : Prop := fnResumedUptoRow.holds Tryd.pinned (OpenSpec.upto fnResumedSpec)

/-- 'laws.FnRoads', WHERE WHAT IT READS IS OF BULK AT MOST 1048576: true; the input reads as it did. -/
def fnRoadsUptoRow : OpenClaim := { program := "ytmcjajeglmjghaadoor", sum := "8cc9ad2df475503aa9aedd3cd5291697bb8e13f7959fa512db187d517e7af219", func := "stirwell/laws.FnRoads", spec := "fnRoads", named := ["stirwell/pub/esbuild/inner/xxhash.prime1v", "encoding/binary.LittleEndian"], apart := false, laid := [("stirwell/pub/esbuild/inner/xxhash.prime1v", laid_stirwell_pub_esbuild_inner_xxhash_prime1v)], narrowed := true }
def FnRoadsUptoSaid : Prop := fnRoadsUptoRow.holds Tryd.pinned (OpenSpec.upto fnRoadsSpec)

/-- 'laws.FnKept', WHERE WHAT IT READS IS OF BULK AT MOST 1048576: true; the input reads as it did. -/
def fnKeptUptoRow : OpenClaim := { program := "ytmcjajeglmjghaadoor", sum := "8cc9ad2df475503aa9aedd3cd5291697bb8e13f7959fa512db187d517e7af219", func := "stirwell/laws.FnKept", spec := "fnKept", named := ["stirwell/pub/esbuild/inner/xxhash.prime1v", "encoding/binary.LittleEndian"], apart := false, laid := [("stirwell/pub/esbuild/inner/xxhash.prime1v", laid_stirwell_pub_esbuild_inner_xxhash_prime1v)], narrowed := true }
def FnKeptUptoSaid : Prop := fnKeptUptoRow.holds Tryd.pinned (OpenSpec.upto fnKeptSpec)

end Rows
end Go.Proofs.YtmcjajeglmjghaaDoor
