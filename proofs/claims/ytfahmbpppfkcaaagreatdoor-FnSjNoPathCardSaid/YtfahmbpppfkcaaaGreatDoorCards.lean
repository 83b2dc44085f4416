/-
  DERIVED. GIVEN WITH THE SEED: THE CARDS: each row of YtfahmbpppfkcaaaGreatDoorRows.lean that lists a variable, with what it lists TIED to the program's text (the seventh form; the later family's looks); each row that meets fmt, with fmt's text TOLD by the authors' own Lean function (tested against real Go, not proved from fmt's source: count such statements apart). THE CARD IS WHAT COUNTS. Prove the row's statement (the work); the ties are given (YtfahmbpppfkcaaaGreatDoorTie.lean); close each card by the builder's one call (the guide's Derived/Test/ToyasCard.lean, 'card_holds'). Laid BY PROGRAM, IN A SANDBOX (cutbox-door.mjs). By AI agents, Wed Nov 11 2026. No macro, syntax, notation, axiom, sorry.
-/
import Derived.Test.YtfahmbpppfkcaaaGreatDoorRows
import GoSem.ClaimSeven
namespace Go.Proofs.YtfahmbpppfkcaaaGreatDoor
namespace Rows

/-- THE TIED CARD OF 'laws.FnGjIndexQuery'. -/
def fnGjIndexQueryCard : Claim7 := { stood := { row := fnGjIndexQueryRow, standIns := [], harness := (true, "b412ae1b633ddb876411e032c9da48641b5bba42b0e9f8e366c988a05bee8454"), looks := true }, kinds := [], alts := [], laidByText := true, laidKinds := [.data, .data, .widerDeep, .widerDeep, .data, .data, .data, .data, .data, .data, .sentinel, .sentinel, .data, .data, .pinned, .pinned, .pinned], laidTests := true, laidLooks := .later }
def FnGjIndexQueryCardSaid : Prop := Claim7.holds Tryz.pinned (.plain (OpenSpec.ofChange fnGjIndexQuerySpec)) fnGjIndexQueryCard

/-- THE TIED CARD OF 'laws.FnGjEachNumbers'. -/
def fnGjEachNumbersCard : Claim7 := { stood := { row := fnGjEachNumbersRow, standIns := [], harness := (true, "b412ae1b633ddb876411e032c9da48641b5bba42b0e9f8e366c988a05bee8454"), looks := true }, kinds := [], alts := [], laidByText := true, laidKinds := [.data, .data, .widerDeep, .widerDeep, .data, .data, .data, .data, .data, .data, .sentinel, .sentinel, .data, .data, .pinned, .pinned, .pinned], laidTests := true, laidLooks := .later }
def FnGjEachNumbersCardSaid : Prop := Claim7.holds Tryz.pinned (.plain (OpenSpec.ofChange fnGjEachNumbersSpec)) fnGjEachNumbersCard

/-- THE TIED CARD OF 'laws.FnGjEvery'. -/
def fnGjEveryCard : Claim7 := { stood := { row := fnGjEveryRow, standIns := [], harness := (true, "b412ae1b633ddb876411e032c9da48641b5bba42b0e9f8e366c988a05bee8454"), looks := true }, kinds := [], alts := [], laidByText := true, laidKinds := [.data, .data, .widerDeep, .widerDeep, .data, .data, .data, .data, .data, .data, .sentinel, .sentinel, .data, .data, .pinned, .pinned, .pinned], laidTests := true, laidLooks := .later }
def FnGjEveryCardSaid : Prop := Claim7.holds Tryz.pinned (.plain (OpenSpec.ofChange fnGjEverySpec)) fnGjEveryCard

/-- THE TIED CARD OF 'laws.FnGjPretty'. -/
def fnGjPrettyCard : Claim7 := { stood := { row := fnGjPrettyRow, standIns := [], harness := (true, "b412ae1b633ddb876411e032c9da48641b5bba42b0e9f8e366c988a05bee8454"), looks := true }, kinds := [], alts := [], laidByText := true, laidKinds := [.data, .data, .widerDeep, .widerDeep, .data, .data, .data, .data, .data, .data, .sentinel, .sentinel, .data, .data, .pinned, .pinned, .pinned], laidTests := true, laidLooks := .later }
def FnGjPrettyCardSaid : Prop := Claim7.holds Tryz.pinned (.plain (OpenSpec.ofChange fnGjPrettySpec)) fnGjPrettyCard

/-- THE TIED CARD OF 'laws.FnGjQueryStrings'. -/
def fnGjQueryStringsCard : Claim7 := { stood := { row := fnGjQueryStringsRow, standIns := [], harness := (true, "b412ae1b633ddb876411e032c9da48641b5bba42b0e9f8e366c988a05bee8454"), looks := true }, kinds := [], alts := [], laidByText := true, laidKinds := [.data, .data, .widerDeep, .widerDeep, .data, .data, .data, .data, .data, .data, .sentinel, .sentinel, .data, .data, .pinned, .pinned, .pinned], laidTests := true, laidLooks := .later }
def FnGjQueryStringsCardSaid : Prop := Claim7.holds Tryz.pinned (.plain (OpenSpec.ofChange fnGjQueryStringsSpec)) fnGjQueryStringsCard

/-- THE TIED CARD OF 'laws.FnGjIndexChain'. -/
def fnGjIndexChainCard : Claim7 := { stood := { row := fnGjIndexChainRow, standIns := [], harness := (true, "b412ae1b633ddb876411e032c9da48641b5bba42b0e9f8e366c988a05bee8454"), looks := true }, kinds := [], alts := [], laidByText := true, laidKinds := [.data, .data, .widerDeep, .widerDeep, .data, .data, .data, .data, .data, .data, .sentinel, .sentinel, .data, .data, .pinned, .pinned, .pinned], laidTests := true, laidLooks := .later }
def FnGjIndexChainCardSaid : Prop := Claim7.holds Tryz.pinned (.plain (OpenSpec.ofChange fnGjIndexChainSpec)) fnGjIndexChainCard

/-- THE TIED CARD OF 'laws.FnGjPathMade'. -/
def fnGjPathMadeCard : Claim7 := { stood := { row := fnGjPathMadeRow, standIns := [], harness := (true, "b412ae1b633ddb876411e032c9da48641b5bba42b0e9f8e366c988a05bee8454"), looks := true }, kinds := [], alts := [], laidByText := true, laidKinds := [.data, .data, .widerDeep, .widerDeep, .data, .data, .data, .data, .data, .data, .sentinel, .sentinel, .data, .data, .pinned, .pinned, .pinned], laidTests := true, laidLooks := .later }
def FnGjPathMadeCardSaid : Prop := Claim7.holds Tryz.pinned (.plain (OpenSpec.ofChange fnGjPathMadeSpec)) fnGjPathMadeCard

/-- THE TIED CARD OF 'laws.FnSjNoPath'. -/
def fnSjNoPathCard : Claim7 := { stood := { row := fnSjNoPathRow, standIns := [], harness := (true, "b412ae1b633ddb876411e032c9da48641b5bba42b0e9f8e366c988a05bee8454"), looks := true }, kinds := [], alts := [], laidByText := true, laidKinds := [.data, .data, .widerDeep, .widerDeep, .data, .data, .data, .data, .data, .data, .sentinel, .sentinel, .data, .data, .sentinel, .pinned, .pinned, .pinned], laidTests := true, laidLooks := .later }
def FnSjNoPathCardSaid : Prop := Claim7.holds Tryz.pinned (.plain (OpenSpec.ofChange fnSjNoPathSpec)) fnSjNoPathCard

/-- THE SECOND FORM's CARD OF 'laws.FnGjIndexQuery'. -/
def fnGjIndexQueryUptoCard : Claim7 := { stood := { row := fnGjIndexQueryUptoRow, standIns := [], harness := (true, "b412ae1b633ddb876411e032c9da48641b5bba42b0e9f8e366c988a05bee8454"), looks := true }, kinds := [], alts := [], laidByText := true, laidKinds := [.data, .data, .widerDeep, .widerDeep, .data, .data, .data, .data, .data, .data, .sentinel, .sentinel, .data, .data, .pinned, .pinned, .pinned], laidTests := true, laidLooks := .later }
def FnGjIndexQueryUptoCardSaid : Prop := Claim7.holds Tryz.pinned (.plain (OpenSpec.upto fnGjIndexQuerySpec)) fnGjIndexQueryUptoCard

/-- THE SECOND FORM's CARD OF 'laws.FnGjEachNumbers'. -/
def fnGjEachNumbersUptoCard : Claim7 := { stood := { row := fnGjEachNumbersUptoRow, standIns := [], harness := (true, "b412ae1b633ddb876411e032c9da48641b5bba42b0e9f8e366c988a05bee8454"), looks := true }, kinds := [], alts := [], laidByText := true, laidKinds := [.data, .data, .widerDeep, .widerDeep, .data, .data, .data, .data, .data, .data, .sentinel, .sentinel, .data, .data, .pinned, .pinned, .pinned], laidTests := true, laidLooks := .later }
def FnGjEachNumbersUptoCardSaid : Prop := Claim7.holds Tryz.pinned (.plain (OpenSpec.upto fnGjEachNumbersSpec)) fnGjEachNumbersUptoCard

/-- THE SECOND FORM's CARD OF 'laws.FnGjEvery'. -/
def fnGjEveryUptoCard : Claim7 := { stood := { row := fnGjEveryUptoRow, standIns := [], harness := (true, "b412ae1b633ddb876411e032c9da48641b5bba42b0e9f8e366c988a05bee8454"), looks := true }, kinds := [], alts := [], laidByText := true, laidKinds := [.data, .data, .widerDeep, .widerDeep, .data, .data, .data, .data, .data, .data, .sentinel, .sentinel, .data, .data, .pinned, .pinned, .pinned], laidTests := true, laidLooks := .later }
def FnGjEveryUptoCardSaid : Prop := Claim7.holds Tryz.pinned (.plain (OpenSpec.upto fnGjEverySpec)) fnGjEveryUptoCard

/-- THE SECOND FORM's CARD OF 'laws.FnGjPretty'. -/
def fnGjPrettyUptoCard : Claim7 := { stood := { row := fnGjPrettyUptoRow, standIns := [], harness := (true, "b412ae1b633ddb876411e032c9da48641b5bba42b0e9f8e366c988a05bee8454"), looks := true }, kinds := [], alts := [], laidByText := true, laidKinds := [.data, .data, .widerDeep, .widerDeep, .data, .data, .data, .data, .data, .data, .sentinel, .sentinel, .data, .data, .pinned, .pinned, .pinned], laidTests := true, laidLooks := .later }
def FnGjPrettyUptoCardSaid : Prop := Claim7.holds Tryz.pinned (.plain (OpenSpec.upto fnGjPrettySpec)) fnGjPrettyUptoCard

/-- THE SECOND FORM's CARD OF 'laws.FnGjQueryStrings'. -/
def fnGjQueryStringsUptoCard : Claim7 := { stood := { row := fnGjQueryStringsUptoRow, standIns := [], harness := (true, "b412ae1b633ddb876411e032c9da48641b5bba42b0e9f8e366c988a05bee8454"), looks := true }, kinds := [], alts := [], laidByText := true, laidKinds := [.data, .data, .widerDeep, .widerDeep, .data, .data, .data, .data, .data, .data, .sentinel, .sentinel, .data, .data, .pinned, .pinned, .pinned], laidTests := true, laidLooks := .later }
def FnGjQueryStringsUptoCardSaid : Prop := Claim7.holds Tryz.pinned (.plain (OpenSpec.upto fnGjQueryStringsSpec)) fnGjQueryStringsUptoCard

/-- THE SECOND FORM's CARD OF 'laws.FnGjIndexChain'. -/
def fnGjIndexChainUptoCard : Claim7 := { stood := { row := fnGjIndexChainUptoRow, standIns := [], harness := (true, "b412ae1b633ddb876411e032c9da48641b5bba42b0e9f8e366c988a05bee8454"), looks := true }, kinds := [], alts := [], laidByText := true, laidKinds := [.data, .data, .widerDeep, .widerDeep, .data, .data, .data, .data, .data, .data, .sentinel, .sentinel, .data, .data, .pinned, .pinned, .pinned], laidTests := true, laidLooks := .later }
def FnGjIndexChainUptoCardSaid : Prop := Claim7.holds Tryz.pinned (.plain (OpenSpec.upto fnGjIndexChainSpec)) fnGjIndexChainUptoCard

/-- THE SECOND FORM's CARD OF 'laws.FnGjPathMade'. -/
def fnGjPathMadeUptoCard : Claim7 := { stood := { row := fnGjPathMadeUptoRow, standIns := [], harness := (true, "b412ae1b633ddb876411e032c9da48641b5bba42b0e9f8e366c988a05bee8454"), looks := true }, kinds := [], alts := [], laidByText := true, laidKinds := [.data, .data, .widerDeep, .widerDeep, .data, .data, .data, .data, .data, .data, .sentinel, .sentinel, .data, .data, .pinned, .pinned, .pinned], laidTests := true, laidLooks := .later }
def FnGjPathMadeUptoCardSaid : Prop := Claim7.holds Tryz.pinned (.plain (OpenSpec.upto fnGjPathMadeSpec)) fnGjPathMadeUptoCard

/-- THE SECOND FORM's CARD OF 'laws.FnSjNoPath'. -/
def fnSjNoPathUptoCard : Claim7 := { stood := { row := fnSjNoPathUptoRow, standIns := [], harness := (true, "b412ae1b633ddb876411e032c9da48641b5bba42b0e9f8e366c988a05bee8454"), looks := true }, kinds := [], alts := [], laidByText := true, laidKinds := [.data, .data, .widerDeep, .widerDeep, .data, .data, .data, .data, .data, .data, .sentinel, .sentinel, .data, .data, .sentinel, .pinned, .pinned, .pinned], laidTests := true, laidLooks := .later }
def FnSjNoPathUptoCardSaid : Prop := Claim7.holds Tryz.pinned (.plain (OpenSpec.upto fnSjNoPathSpec)) fnSjNoPathUptoCard
end Rows
end Go.Proofs.YtfahmbpppfkcaaaGreatDoor
