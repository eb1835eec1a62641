/-
  No cell of these rows narrows 'for every input' (looked for: loops, veiled, ifaces, maps, wideKeys, modest, calm, conditions, laid).
  DERIVED. THE GIVEN ROWS OF THIS SEAT. 7 by the template 'for every input the law returns true; each argument reads behind the call as it read before'; 0 by the template 'total and deterministic' (their statements: Qxb6613268aTotals.lean).
  GIVEN WITH THE SEED: the statements are not yours to turn. If you find one false, say at which input.
  Laid BY PROGRAM, IN A SANDBOX (cutbox-rows.mjs): the forced cells as the released guide's own fill.sh prints them over the translation a79854fcf96ce07f… (all of the seat's roots in one cut). By AI agents, Wed Nov 11 2026. No macro, syntax, notation, axiom, sorry.
-/
import Derived.Test.Qxb6613268aChecked
import GoSem.Claim
import GoSem.ClaimJoined
import GoSem.ClaimMapViews
import Derived.JoinedTies
import Derived.KernelRfl
namespace Go.Proofs.Qxb6613268a
/- THE CELL 'sum', in the pinned program and in every row, IS THE sha256 OF THE DUMP (.gsa) THAT Qxb6613268aProg.lean LOADS. Nothing in Lean hashes anything: it is a label: what it is worth is what the hold of that sum in a sandbox is worth. -/
noncomputable def Try.pinned : Pinned := { name := "qxb6613268a", sum := "a79854fcf96ce07f25508c3d4ccfdfebfe7b434035b2a0ac6c56afcf27d04155", checked := Try.checked }
namespace Rows
def none {H : Type} : Left H := { results := [], args := [] }

/-- 'zzlaws_root_b1.FnPackStateHalvesAndInjective': WHATEVER THE INPUT: true; the input reads as it did. -/
def fnPackStateHalvesAndInjectiveSpec : ChangeSpec := { name := "fnPackStateHalvesAndInjective", fn := fun _ => fun
  | [d1, d2, d3, d4] => { results := [.lit (.bool true)], args := [d1, d2, d3, d4] }
  | _ => none }
def fnPackStateHalvesAndInjectiveRow : OpenClaim := { program := "qxb6613268a", sum := "a79854fcf96ce07f25508c3d4ccfdfebfe7b434035b2a0ac6c56afcf27d04155", func := "example.com/unpark/unpark/zzlaws_root_b1.FnPackStateHalvesAndInjective", spec := "fnPackStateHalvesAndInjective", apart := false }
def FnPackStateHalvesAndInjectiveSaid : Prop := fnPackStateHalvesAndInjectiveRow.holds Try.pinned (OpenSpec.ofChange fnPackStateHalvesAndInjectiveSpec)

/-- ITS FALSE NEIGHBOUR: 'it returns false'. Refute it at one input. -/
def fnPackStateHalvesAndInjectiveWrong : ChangeSpec := { name := "fnPackStateHalvesAndInjective", fn := fun _ => fun
  | [d1, d2, d3, d4] => { results := [.lit (.bool false)], args := [d1, d2, d3, d4] }
  | _ => none }
def FnPackStateHalvesAndInjectiveWrongFalsely : Prop := fnPackStateHalvesAndInjectiveRow.holds Try.pinned (OpenSpec.ofChange fnPackStateHalvesAndInjectiveWrong)

/-- 'zzlaws_root_b1.FnPackStateKeepsLexicographicOrder': WHATEVER THE INPUT: true; the input reads as it did. -/
def fnPackStateKeepsLexicographicOrderSpec : ChangeSpec := { name := "fnPackStateKeepsLexicographicOrder", fn := fun _ => fun
  | [d1, d2, d3, d4] => { results := [.lit (.bool true)], args := [d1, d2, d3, d4] }
  | _ => none }
def fnPackStateKeepsLexicographicOrderRow : OpenClaim := { program := "qxb6613268a", sum := "a79854fcf96ce07f25508c3d4ccfdfebfe7b434035b2a0ac6c56afcf27d04155", func := "example.com/unpark/unpark/zzlaws_root_b1.FnPackStateKeepsLexicographicOrder", spec := "fnPackStateKeepsLexicographicOrder", apart := false }
def FnPackStateKeepsLexicographicOrderSaid : Prop := fnPackStateKeepsLexicographicOrderRow.holds Try.pinned (OpenSpec.ofChange fnPackStateKeepsLexicographicOrderSpec)

/-- ITS FALSE NEIGHBOUR: 'it returns false'. Refute it at one input. -/
def fnPackStateKeepsLexicographicOrderWrong : ChangeSpec := { name := "fnPackStateKeepsLexicographicOrder", fn := fun _ => fun
  | [d1, d2, d3, d4] => { results := [.lit (.bool false)], args := [d1, d2, d3, d4] }
  | _ => none }
def FnPackStateKeepsLexicographicOrderWrongFalsely : Prop := fnPackStateKeepsLexicographicOrderRow.holds Try.pinned (OpenSpec.ofChange fnPackStateKeepsLexicographicOrderWrong)

/-- 'zzlaws_root_b1.FnUnlinkWalksTheChain': WHATEVER THE INPUT: true; the input reads as it did. -/
def fnUnlinkWalksTheChainSpec : ChangeSpec := { name := "fnUnlinkWalksTheChain", fn := fun _ => fun
  | [d1, d2, d3] => { results := [.lit (.bool true)], args := [d1, d2, d3] }
  | _ => none }
def fnUnlinkWalksTheChainRow : OpenClaim := { program := "qxb6613268a", sum := "a79854fcf96ce07f25508c3d4ccfdfebfe7b434035b2a0ac6c56afcf27d04155", func := "example.com/unpark/unpark/zzlaws_root_b1.FnUnlinkWalksTheChain", spec := "fnUnlinkWalksTheChain", apart := false }
def FnUnlinkWalksTheChainSaid : Prop := fnUnlinkWalksTheChainRow.holds Try.pinned (OpenSpec.ofChange fnUnlinkWalksTheChainSpec)

/-- ITS FALSE NEIGHBOUR: 'it returns false'. Refute it at one input. -/
def fnUnlinkWalksTheChainWrong : ChangeSpec := { name := "fnUnlinkWalksTheChain", fn := fun _ => fun
  | [d1, d2, d3] => { results := [.lit (.bool false)], args := [d1, d2, d3] }
  | _ => none }
def FnUnlinkWalksTheChainWrongFalsely : Prop := fnUnlinkWalksTheChainRow.holds Try.pinned (OpenSpec.ofChange fnUnlinkWalksTheChainWrong)

/-- 'zzlaws_root_b1.FnUnlinkShortensTheChainByOne': WHATEVER THE INPUT: true; the input reads as it did. -/
def fnUnlinkShortensTheChainByOneSpec : ChangeSpec := { name := "fnUnlinkShortensTheChainByOne", fn := fun _ => fun
  | [d1, d2, d3] => { results := [.lit (.bool true)], args := [d1, d2, d3] }
  | _ => none }
def fnUnlinkShortensTheChainByOneRow : OpenClaim := { program := "qxb6613268a", sum := "a79854fcf96ce07f25508c3d4ccfdfebfe7b434035b2a0ac6c56afcf27d04155", func := "example.com/unpark/unpark/zzlaws_root_b1.FnUnlinkShortensTheChainByOne", spec := "fnUnlinkShortensTheChainByOne", apart := false }
def FnUnlinkShortensTheChainByOneSaid : Prop := fnUnlinkShortensTheChainByOneRow.holds Try.pinned (OpenSpec.ofChange fnUnlinkShortensTheChainByOneSpec)

/-- ITS FALSE NEIGHBOUR: 'it returns false'. Refute it at one input. -/
def fnUnlinkShortensTheChainByOneWrong : ChangeSpec := { name := "fnUnlinkShortensTheChainByOne", fn := fun _ => fun
  | [d1, d2, d3] => { results := [.lit (.bool false)], args := [d1, d2, d3] }
  | _ => none }
def FnUnlinkShortensTheChainByOneWrongFalsely : Prop := fnUnlinkShortensTheChainByOneRow.holds Try.pinned (OpenSpec.ofChange fnUnlinkShortensTheChainByOneWrong)

/-- 'zzlaws_root_b1.FnJoinCountsOneParkAndCarries': WHATEVER THE INPUT: true; the input reads as it did. -/
def fnJoinCountsOneParkAndCarriesSpec : ChangeSpec := { name := "fnJoinCountsOneParkAndCarries", fn := fun _ => fun
  | [d1, d2] => { results := [.lit (.bool true)], args := [d1, d2] }
  | _ => none }
def fnJoinCountsOneParkAndCarriesRow : OpenClaim := { program := "qxb6613268a", sum := "a79854fcf96ce07f25508c3d4ccfdfebfe7b434035b2a0ac6c56afcf27d04155", func := "example.com/unpark/unpark/zzlaws_root_b1.FnJoinCountsOneParkAndCarries", spec := "fnJoinCountsOneParkAndCarries", inPlace := ["sync/atomic.StoreUint64", "sync/atomic.LoadUint64", "runtime.Gosched", "sync/atomic.CompareAndSwapUint64", "sync/atomic.AddUint64", "sync/atomic.AndUint64"], unfollowed := true, recurses := true, apart := false }
def FnJoinCountsOneParkAndCarriesSaid : Prop := fnJoinCountsOneParkAndCarriesRow.holds Try.pinned (OpenSpec.ofChange fnJoinCountsOneParkAndCarriesSpec)

/-- ITS FALSE NEIGHBOUR: 'it returns false'. Refute it at one input. -/
def fnJoinCountsOneParkAndCarriesWrong : ChangeSpec := { name := "fnJoinCountsOneParkAndCarries", fn := fun _ => fun
  | [d1, d2] => { results := [.lit (.bool false)], args := [d1, d2] }
  | _ => none }
def FnJoinCountsOneParkAndCarriesWrongFalsely : Prop := fnJoinCountsOneParkAndCarriesRow.holds Try.pinned (OpenSpec.ofChange fnJoinCountsOneParkAndCarriesWrong)

/-- 'zzlaws_root_b1.FnJoinScriptCountsEveryPark': WHATEVER THE INPUT: true; the input reads as it did. -/
def fnJoinScriptCountsEveryParkSpec : ChangeSpec := { name := "fnJoinScriptCountsEveryPark", fn := fun _ => fun
  | [d1, d2, d3] => { results := [.lit (.bool true)], args := [d1, d2, d3] }
  | _ => none }
def fnJoinScriptCountsEveryParkRow : OpenClaim := { program := "qxb6613268a", sum := "a79854fcf96ce07f25508c3d4ccfdfebfe7b434035b2a0ac6c56afcf27d04155", func := "example.com/unpark/unpark/zzlaws_root_b1.FnJoinScriptCountsEveryPark", spec := "fnJoinScriptCountsEveryPark", inPlace := ["sync/atomic.StoreUint64", "sync/atomic.LoadUint64", "runtime.Gosched", "sync/atomic.CompareAndSwapUint64", "sync/atomic.AddUint64", "sync/atomic.AndUint64"], unfollowed := true, recurses := true, apart := false }
def FnJoinScriptCountsEveryParkSaid : Prop := fnJoinScriptCountsEveryParkRow.holds Try.pinned (OpenSpec.ofChange fnJoinScriptCountsEveryParkSpec)

/-- ITS FALSE NEIGHBOUR: 'it returns false'. Refute it at one input. -/
def fnJoinScriptCountsEveryParkWrong : ChangeSpec := { name := "fnJoinScriptCountsEveryPark", fn := fun _ => fun
  | [d1, d2, d3] => { results := [.lit (.bool false)], args := [d1, d2, d3] }
  | _ => none }
def FnJoinScriptCountsEveryParkWrongFalsely : Prop := fnJoinScriptCountsEveryParkRow.holds Try.pinned (OpenSpec.ofChange fnJoinScriptCountsEveryParkWrong)

/-- 'zzlaws_root_b1.FnTaskReturnedCountsEachReturn': WHATEVER THE INPUT: true; the input reads as it did. -/
def fnTaskReturnedCountsEachReturnSpec : ChangeSpec := { name := "fnTaskReturnedCountsEachReturn", fn := fun _ => fun
  | [d1, d2, d3, d4] => { results := [.lit (.bool true)], args := [d1, d2, d3, d4] }
  | _ => none }
def fnTaskReturnedCountsEachReturnRow : OpenClaim := { program := "qxb6613268a", sum := "a79854fcf96ce07f25508c3d4ccfdfebfe7b434035b2a0ac6c56afcf27d04155", func := "example.com/unpark/unpark/zzlaws_root_b1.FnTaskReturnedCountsEachReturn", spec := "fnTaskReturnedCountsEachReturn", inPlace := ["sync/atomic.StoreUint64", "sync/atomic.AddUint64", "sync/atomic.LoadUint64"], apart := false }
def FnTaskReturnedCountsEachReturnSaid : Prop := fnTaskReturnedCountsEachReturnRow.holds Try.pinned (OpenSpec.ofChange fnTaskReturnedCountsEachReturnSpec)

/-- ITS FALSE NEIGHBOUR: 'it returns false'. Refute it at one input. -/
def fnTaskReturnedCountsEachReturnWrong : ChangeSpec := { name := "fnTaskReturnedCountsEachReturn", fn := fun _ => fun
  | [d1, d2, d3, d4] => { results := [.lit (.bool false)], args := [d1, d2, d3, d4] }
  | _ => none }
def FnTaskReturnedCountsEachReturnWrongFalsely : Prop := fnTaskReturnedCountsEachReturnRow.holds Try.pinned (OpenSpec.ofChange fnTaskReturnedCountsEachReturnWrong)

end Rows
end Go.Proofs.Qxb6613268a
