/-
  No cell of these rows narrows 'for every input' (looked for: loops, veiled, ifaces, maps, wideKeys, modest, calm, conditions, laid).
  DERIVED. THE GIVEN ROWS OF THIS SEAT. 8 by the template 'for every input the law returns true; each argument reads behind the call as it read before'; 0 by the template 'total and deterministic' (their statements: Qxb6001347aTotals.lean).
  GIVEN WITH THE SEED: the statements are not yours to turn. If you find one false, say at which input.
  Laid BY PROGRAM, IN A SANDBOX (cutbox-rows.mjs): the forced cells as the released guide's own fill.sh prints them over the translation df96a89a8615f255… (all of the seat's roots in one cut). By AI agents, Wed Nov 11 2026. No macro, syntax, notation, axiom, sorry.
-/
import Derived.Test.Qxb6001347aChecked
import GoSem.Claim
import GoSem.ClaimJoined
import GoSem.ClaimMapViews
import Derived.JoinedTies
import Derived.KernelRfl
namespace Go.Proofs.Qxb6001347a
/- THE CELL 'sum', in the pinned program and in every row, IS THE sha256 OF THE DUMP (.gsa) THAT Qxb6001347aProg.lean LOADS. Nothing in Lean hashes anything: it is a label: what it is worth is what the hold of that sum in a sandbox is worth. -/
noncomputable def Try.pinned : Pinned := { name := "qxb6001347a", sum := "df96a89a8615f255b6610a3a1cd73630b7c758c26905648c1b4853ab6e27b1e5", checked := Try.checked }
namespace Rows
def none {H : Type} : Left H := { results := [], args := [] }

/-- 'zzlaws_xz_b1.FnMakeRoomMakesRoomKeepingDictionary': WHATEVER THE INPUT: true; the input reads as it did. -/
def fnMakeRoomMakesRoomKeepingDictionarySpec : ChangeSpec := { name := "fnMakeRoomMakesRoomKeepingDictionary", fn := fun _ => fun
  | [d1, d2, d3, d4, d5] => { results := [.lit (.bool true)], args := [d1, d2, d3, d4, d5] }
  | _ => none }
def fnMakeRoomMakesRoomKeepingDictionaryRow : OpenClaim := { program := "qxb6001347a", sum := "df96a89a8615f255b6610a3a1cd73630b7c758c26905648c1b4853ab6e27b1e5", func := "example.com/planwright/planwright/zzlaws_xz_b1.FnMakeRoomMakesRoomKeepingDictionary", spec := "fnMakeRoomMakesRoomKeepingDictionary", apart := false }
def FnMakeRoomMakesRoomKeepingDictionarySaid : Prop := fnMakeRoomMakesRoomKeepingDictionaryRow.holds Try.pinned (OpenSpec.ofChange fnMakeRoomMakesRoomKeepingDictionarySpec)

/-- ITS FALSE NEIGHBOUR: 'it returns false'. Refute it at one input. -/
def fnMakeRoomMakesRoomKeepingDictionaryWrong : ChangeSpec := { name := "fnMakeRoomMakesRoomKeepingDictionary", fn := fun _ => fun
  | [d1, d2, d3, d4, d5] => { results := [.lit (.bool false)], args := [d1, d2, d3, d4, d5] }
  | _ => none }
def FnMakeRoomMakesRoomKeepingDictionaryWrongFalsely : Prop := fnMakeRoomMakesRoomKeepingDictionaryRow.holds Try.pinned (OpenSpec.ofChange fnMakeRoomMakesRoomKeepingDictionaryWrong)

/-- 'zzlaws_xz_b1.FnMakeRoomIdempotent': WHATEVER THE INPUT: true; the input reads as it did. -/
def fnMakeRoomIdempotentSpec : ChangeSpec := { name := "fnMakeRoomIdempotent", fn := fun _ => fun
  | [d1, d2, d3, d4, d5] => { results := [.lit (.bool true)], args := [d1, d2, d3, d4, d5] }
  | _ => none }
def fnMakeRoomIdempotentRow : OpenClaim := { program := "qxb6001347a", sum := "df96a89a8615f255b6610a3a1cd73630b7c758c26905648c1b4853ab6e27b1e5", func := "example.com/planwright/planwright/zzlaws_xz_b1.FnMakeRoomIdempotent", spec := "fnMakeRoomIdempotent", apart := false }
def FnMakeRoomIdempotentSaid : Prop := fnMakeRoomIdempotentRow.holds Try.pinned (OpenSpec.ofChange fnMakeRoomIdempotentSpec)

/-- ITS FALSE NEIGHBOUR: 'it returns false'. Refute it at one input. -/
def fnMakeRoomIdempotentWrong : ChangeSpec := { name := "fnMakeRoomIdempotent", fn := fun _ => fun
  | [d1, d2, d3, d4, d5] => { results := [.lit (.bool false)], args := [d1, d2, d3, d4, d5] }
  | _ => none }
def FnMakeRoomIdempotentWrongFalsely : Prop := fnMakeRoomIdempotentRow.holds Try.pinned (OpenSpec.ofChange fnMakeRoomIdempotentWrong)

/-- 'zzlaws_xz_b1.FnMakeRoomScriptGrowsOnceAndKeepsHistory': WHATEVER THE INPUT: true; the input reads as it did. -/
def fnMakeRoomScriptGrowsOnceAndKeepsHistorySpec : ChangeSpec := { name := "fnMakeRoomScriptGrowsOnceAndKeepsHistory", fn := fun _ => fun
  | [d1, d2, d3, d4, d5] => { results := [.lit (.bool true)], args := [d1, d2, d3, d4, d5] }
  | _ => none }
def fnMakeRoomScriptGrowsOnceAndKeepsHistoryRow : OpenClaim := { program := "qxb6001347a", sum := "df96a89a8615f255b6610a3a1cd73630b7c758c26905648c1b4853ab6e27b1e5", func := "example.com/planwright/planwright/zzlaws_xz_b1.FnMakeRoomScriptGrowsOnceAndKeepsHistory", spec := "fnMakeRoomScriptGrowsOnceAndKeepsHistory", apart := false }
def FnMakeRoomScriptGrowsOnceAndKeepsHistorySaid : Prop := fnMakeRoomScriptGrowsOnceAndKeepsHistoryRow.holds Try.pinned (OpenSpec.ofChange fnMakeRoomScriptGrowsOnceAndKeepsHistorySpec)

/-- ITS FALSE NEIGHBOUR: 'it returns false'. Refute it at one input. -/
def fnMakeRoomScriptGrowsOnceAndKeepsHistoryWrong : ChangeSpec := { name := "fnMakeRoomScriptGrowsOnceAndKeepsHistory", fn := fun _ => fun
  | [d1, d2, d3, d4, d5] => { results := [.lit (.bool false)], args := [d1, d2, d3, d4, d5] }
  | _ => none }
def FnMakeRoomScriptGrowsOnceAndKeepsHistoryWrongFalsely : Prop := fnMakeRoomScriptGrowsOnceAndKeepsHistoryRow.holds Try.pinned (OpenSpec.ofChange fnMakeRoomScriptGrowsOnceAndKeepsHistoryWrong)

/-- 'zzlaws_xz_b1.FnBitOfSplitsRangeMonotonically': WHATEVER THE INPUT: true; the input reads as it did. -/
def fnBitOfSplitsRangeMonotonicallySpec : ChangeSpec := { name := "fnBitOfSplitsRangeMonotonically", fn := fun _ => fun
  | [d1, d2, d3, d4, d5] => { results := [.lit (.bool true)], args := [d1, d2, d3, d4, d5] }
  | _ => none }
def fnBitOfSplitsRangeMonotonicallyRow : OpenClaim := { program := "qxb6001347a", sum := "df96a89a8615f255b6610a3a1cd73630b7c758c26905648c1b4853ab6e27b1e5", func := "example.com/planwright/planwright/zzlaws_xz_b1.FnBitOfSplitsRangeMonotonically", spec := "fnBitOfSplitsRangeMonotonically", apart := false }
def FnBitOfSplitsRangeMonotonicallySaid : Prop := fnBitOfSplitsRangeMonotonicallyRow.holds Try.pinned (OpenSpec.ofChange fnBitOfSplitsRangeMonotonicallySpec)

/-- ITS FALSE NEIGHBOUR: 'it returns false'. Refute it at one input. -/
def fnBitOfSplitsRangeMonotonicallyWrong : ChangeSpec := { name := "fnBitOfSplitsRangeMonotonically", fn := fun _ => fun
  | [d1, d2, d3, d4, d5] => { results := [.lit (.bool false)], args := [d1, d2, d3, d4, d5] }
  | _ => none }
def FnBitOfSplitsRangeMonotonicallyWrongFalsely : Prop := fnBitOfSplitsRangeMonotonicallyRow.holds Try.pinned (OpenSpec.ofChange fnBitOfSplitsRangeMonotonicallyWrong)

/-- 'zzlaws_xz_b1.FnBitOfAdaptsLikeReferenceLZMA': WHATEVER THE INPUT: true; the input reads as it did. -/
def fnBitOfAdaptsLikeReferenceLZMASpec : ChangeSpec := { name := "fnBitOfAdaptsLikeReferenceLZMA", fn := fun _ => fun
  | [d1, d2, d3, d4] => { results := [.lit (.bool true)], args := [d1, d2, d3, d4] }
  | _ => none }
def fnBitOfAdaptsLikeReferenceLZMARow : OpenClaim := { program := "qxb6001347a", sum := "df96a89a8615f255b6610a3a1cd73630b7c758c26905648c1b4853ab6e27b1e5", func := "example.com/planwright/planwright/zzlaws_xz_b1.FnBitOfAdaptsLikeReferenceLZMA", spec := "fnBitOfAdaptsLikeReferenceLZMA", apart := false }
def FnBitOfAdaptsLikeReferenceLZMASaid : Prop := fnBitOfAdaptsLikeReferenceLZMARow.holds Try.pinned (OpenSpec.ofChange fnBitOfAdaptsLikeReferenceLZMASpec)

/-- ITS FALSE NEIGHBOUR: 'it returns false'. Refute it at one input. -/
def fnBitOfAdaptsLikeReferenceLZMAWrong : ChangeSpec := { name := "fnBitOfAdaptsLikeReferenceLZMA", fn := fun _ => fun
  | [d1, d2, d3, d4] => { results := [.lit (.bool false)], args := [d1, d2, d3, d4] }
  | _ => none }
def FnBitOfAdaptsLikeReferenceLZMAWrongFalsely : Prop := fnBitOfAdaptsLikeReferenceLZMARow.holds Try.pinned (OpenSpec.ofChange fnBitOfAdaptsLikeReferenceLZMAWrong)

/-- 'zzlaws_xz_b1.FnBitOfKeepsProbabilityInBand': WHATEVER THE INPUT: true; the input reads as it did. -/
def fnBitOfKeepsProbabilityInBandSpec : ChangeSpec := { name := "fnBitOfKeepsProbabilityInBand", fn := fun _ => fun
  | [d1, d2, d3, d4] => { results := [.lit (.bool true)], args := [d1, d2, d3, d4] }
  | _ => none }
def fnBitOfKeepsProbabilityInBandRow : OpenClaim := { program := "qxb6001347a", sum := "df96a89a8615f255b6610a3a1cd73630b7c758c26905648c1b4853ab6e27b1e5", func := "example.com/planwright/planwright/zzlaws_xz_b1.FnBitOfKeepsProbabilityInBand", spec := "fnBitOfKeepsProbabilityInBand", apart := false }
def FnBitOfKeepsProbabilityInBandSaid : Prop := fnBitOfKeepsProbabilityInBandRow.holds Try.pinned (OpenSpec.ofChange fnBitOfKeepsProbabilityInBandSpec)

/-- ITS FALSE NEIGHBOUR: 'it returns false'. Refute it at one input. -/
def fnBitOfKeepsProbabilityInBandWrong : ChangeSpec := { name := "fnBitOfKeepsProbabilityInBand", fn := fun _ => fun
  | [d1, d2, d3, d4] => { results := [.lit (.bool false)], args := [d1, d2, d3, d4] }
  | _ => none }
def FnBitOfKeepsProbabilityInBandWrongFalsely : Prop := fnBitOfKeepsProbabilityInBandRow.holds Try.pinned (OpenSpec.ofChange fnBitOfKeepsProbabilityInBandWrong)

/-- 'zzlaws_xz_b1.FnTreeRoundTripsReferenceEncoder': WHATEVER THE INPUT: true; the input reads as it did. -/
def fnTreeRoundTripsReferenceEncoderSpec : ChangeSpec := { name := "fnTreeRoundTripsReferenceEncoder", fn := fun _ => fun
  | [d1, d2, d3] => { results := [.lit (.bool true)], args := [d1, d2, d3] }
  | _ => none }
def fnTreeRoundTripsReferenceEncoderRow : OpenClaim := { program := "qxb6001347a", sum := "df96a89a8615f255b6610a3a1cd73630b7c758c26905648c1b4853ab6e27b1e5", func := "example.com/planwright/planwright/zzlaws_xz_b1.FnTreeRoundTripsReferenceEncoder", spec := "fnTreeRoundTripsReferenceEncoder", apart := false }
def FnTreeRoundTripsReferenceEncoderSaid : Prop := fnTreeRoundTripsReferenceEncoderRow.holds Try.pinned (OpenSpec.ofChange fnTreeRoundTripsReferenceEncoderSpec)

/-- ITS FALSE NEIGHBOUR: 'it returns false'. Refute it at one input. -/
def fnTreeRoundTripsReferenceEncoderWrong : ChangeSpec := { name := "fnTreeRoundTripsReferenceEncoder", fn := fun _ => fun
  | [d1, d2, d3] => { results := [.lit (.bool false)], args := [d1, d2, d3] }
  | _ => none }
def FnTreeRoundTripsReferenceEncoderWrongFalsely : Prop := fnTreeRoundTripsReferenceEncoderRow.holds Try.pinned (OpenSpec.ofChange fnTreeRoundTripsReferenceEncoderWrong)

/-- 'zzlaws_xz_b1.FnTreeTouchesOnlyItsPath': WHATEVER THE INPUT: true; the input reads as it did. -/
def fnTreeTouchesOnlyItsPathSpec : ChangeSpec := { name := "fnTreeTouchesOnlyItsPath", fn := fun _ => fun
  | [d1, d2, d3, d4, d5, d6] => { results := [.lit (.bool true)], args := [d1, d2, d3, d4, d5, d6] }
  | _ => none }
def fnTreeTouchesOnlyItsPathRow : OpenClaim := { program := "qxb6001347a", sum := "df96a89a8615f255b6610a3a1cd73630b7c758c26905648c1b4853ab6e27b1e5", func := "example.com/planwright/planwright/zzlaws_xz_b1.FnTreeTouchesOnlyItsPath", spec := "fnTreeTouchesOnlyItsPath", apart := false }
def FnTreeTouchesOnlyItsPathSaid : Prop := fnTreeTouchesOnlyItsPathRow.holds Try.pinned (OpenSpec.ofChange fnTreeTouchesOnlyItsPathSpec)

/-- ITS FALSE NEIGHBOUR: 'it returns false'. Refute it at one input. -/
def fnTreeTouchesOnlyItsPathWrong : ChangeSpec := { name := "fnTreeTouchesOnlyItsPath", fn := fun _ => fun
  | [d1, d2, d3, d4, d5, d6] => { results := [.lit (.bool false)], args := [d1, d2, d3, d4, d5, d6] }
  | _ => none }
def FnTreeTouchesOnlyItsPathWrongFalsely : Prop := fnTreeTouchesOnlyItsPathRow.holds Try.pinned (OpenSpec.ofChange fnTreeTouchesOnlyItsPathWrong)

end Rows
end Go.Proofs.Qxb6001347a
