/-
  DERIVED. GIVEN WITH THE SEED: THE CARDS: each row of YtdpjmhbjenalkaaGreatDoorRows.lean that lists a variable, with what it lists TIED to the program's text (the seventh form; the later family's looks); each row that meets fmt, with fmt's text TOLD by the authors' own Lean function (tested against real Go, not proved from fmt's source: count such statements apart). THE CARD IS WHAT COUNTS. Prove the row's statement (the work); the ties are given (YtdpjmhbjenalkaaGreatDoorTie.lean); close each card by the builder's one call (the guide's Derived/Test/ToyasCard.lean, 'card_holds'). Laid BY PROGRAM, IN A SANDBOX (cutbox-door.mjs). By AI agents, Wed Nov 11 2026. No macro, syntax, notation, axiom, sorry.
-/
import Derived.Test.YtdpjmhbjenalkaaGreatDoorRows
import GoSem.ClaimSeven
namespace Go.Proofs.YtdpjmhbjenalkaaGreatDoor
namespace Rows

/-- THE TIED CARD OF 'laws.FnGjCount'. -/
def fnGjCountCard : Claim7 := { stood := { row := fnGjCountRow, standIns := [], harness := (true, "735094f3baba6f9b515fbe1248fd62cc9c6db9908d9ed7029b599431ded168f0"), looks := true }, kinds := [], alts := [], laidByText := true, laidKinds := [.data, .data, .widerDeep, .widerDeep, .data, .data, .data, .data, .data, .data, .sentinel, .sentinel, .data, .data, .pinned, .pinned, .pinned], laidTests := true, laidLooks := .later }
def FnGjCountCardSaid : Prop := Claim7.holds Tryz.pinned (.plain (OpenSpec.ofChange fnGjCountSpec)) fnGjCountCard

/-- THE TIED CARD OF 'laws.FnGjGroup'. -/
def fnGjGroupCard : Claim7 := { stood := { row := fnGjGroupRow, standIns := [], harness := (true, "735094f3baba6f9b515fbe1248fd62cc9c6db9908d9ed7029b599431ded168f0"), looks := true }, kinds := [], alts := [], laidByText := true, laidKinds := [.data, .data, .widerDeep, .widerDeep, .data, .data, .data, .data, .data, .data, .sentinel, .sentinel, .data, .data, .pinned, .pinned, .pinned], laidTests := true, laidLooks := .later }
def FnGjGroupCardSaid : Prop := Claim7.holds Tryz.pinned (.plain (OpenSpec.ofChange fnGjGroupSpec)) fnGjGroupCard

/-- THE TIED CARD OF 'laws.FnGjMember'. -/
def fnGjMemberCard : Claim7 := { stood := { row := fnGjMemberRow, standIns := [], harness := (true, "735094f3baba6f9b515fbe1248fd62cc9c6db9908d9ed7029b599431ded168f0"), looks := true }, kinds := [], alts := [], laidByText := true, laidKinds := [.data, .data, .widerDeep, .widerDeep, .data, .data, .data, .data, .data, .data, .sentinel, .sentinel, .data, .data, .pinned, .pinned, .pinned], laidTests := true, laidLooks := .later }
def FnGjMemberCardSaid : Prop := Claim7.holds Tryz.pinned (.plain (OpenSpec.ofChange fnGjMemberSpec)) fnGjMemberCard

/-- THE TIED CARD OF 'laws.FnGjQueryBool'. -/
def fnGjQueryBoolCard : Claim7 := { stood := { row := fnGjQueryBoolRow, standIns := [], harness := (true, "735094f3baba6f9b515fbe1248fd62cc9c6db9908d9ed7029b599431ded168f0"), looks := true }, kinds := [], alts := [], laidByText := true, laidKinds := [.data, .data, .widerDeep, .widerDeep, .data, .data, .data, .data, .data, .data, .sentinel, .sentinel, .data, .data, .pinned, .pinned, .pinned], laidTests := true, laidLooks := .later }
def FnGjQueryBoolCardSaid : Prop := Claim7.holds Tryz.pinned (.plain (OpenSpec.ofChange fnGjQueryBoolSpec)) fnGjQueryBoolCard

/-- THE TIED CARD OF 'laws.FnGjThis'. -/
def fnGjThisCard : Claim7 := { stood := { row := fnGjThisRow, standIns := [], harness := (true, "735094f3baba6f9b515fbe1248fd62cc9c6db9908d9ed7029b599431ded168f0"), looks := true }, kinds := [], alts := [], laidByText := true, laidKinds := [.data, .data, .widerDeep, .widerDeep, .data, .data, .data, .data, .data, .data, .sentinel, .sentinel, .data, .data, .pinned, .pinned, .pinned], laidTests := true, laidLooks := .later }
def FnGjThisCardSaid : Prop := Claim7.holds Tryz.pinned (.plain (OpenSpec.ofChange fnGjThisSpec)) fnGjThisCard

/-- THE TIED CARD OF 'laws.FnGjObjectPathWild'. -/
def fnGjObjectPathWildCard : Claim7 := { stood := { row := fnGjObjectPathWildRow, standIns := [], harness := (true, "735094f3baba6f9b515fbe1248fd62cc9c6db9908d9ed7029b599431ded168f0"), looks := true }, kinds := [], alts := [], laidByText := true, laidKinds := [.data, .data, .widerDeep, .widerDeep, .data, .data, .data, .data, .data, .data, .sentinel, .sentinel, .data, .data, .pinned, .pinned, .pinned], laidTests := true, laidLooks := .later }
def FnGjObjectPathWildCardSaid : Prop := Claim7.holds Tryz.pinned (.plain (OpenSpec.ofChange fnGjObjectPathWildSpec)) fnGjObjectPathWildCard

/-- THE TIED CARD OF 'laws.FnGjPrettyGet'. -/
def fnGjPrettyGetCard : Claim7 := { stood := { row := fnGjPrettyGetRow, standIns := [], harness := (true, "735094f3baba6f9b515fbe1248fd62cc9c6db9908d9ed7029b599431ded168f0"), looks := true }, kinds := [], alts := [], laidByText := true, laidKinds := [.data, .data, .widerDeep, .widerDeep, .data, .data, .data, .data, .data, .data, .sentinel, .sentinel, .data, .data, .pinned, .pinned, .pinned], laidTests := true, laidLooks := .later }
def FnGjPrettyGetCardSaid : Prop := Claim7.holds Tryz.pinned (.plain (OpenSpec.ofChange fnGjPrettyGetSpec)) fnGjPrettyGetCard

/-- THE TIED CARD OF 'laws.FnGjPathOf'. -/
def fnGjPathOfCard : Claim7 := { stood := { row := fnGjPathOfRow, standIns := [], harness := (true, "735094f3baba6f9b515fbe1248fd62cc9c6db9908d9ed7029b599431ded168f0"), looks := true }, kinds := [], alts := [], laidByText := true, laidKinds := [.data, .data, .widerDeep, .widerDeep, .data, .data, .data, .data, .data, .data, .sentinel, .sentinel, .data, .data, .pinned, .pinned, .pinned], laidTests := true, laidLooks := .later }
def FnGjPathOfCardSaid : Prop := Claim7.holds Tryz.pinned (.plain (OpenSpec.ofChange fnGjPathOfSpec)) fnGjPathOfCard

/-- THE SECOND FORM's CARD OF 'laws.FnGjCount'. -/
def fnGjCountUptoCard : Claim7 := { stood := { row := fnGjCountUptoRow, standIns := [], harness := (true, "735094f3baba6f9b515fbe1248fd62cc9c6db9908d9ed7029b599431ded168f0"), looks := true }, kinds := [], alts := [], laidByText := true, laidKinds := [.data, .data, .widerDeep, .widerDeep, .data, .data, .data, .data, .data, .data, .sentinel, .sentinel, .data, .data, .pinned, .pinned, .pinned], laidTests := true, laidLooks := .later }
def FnGjCountUptoCardSaid : Prop := Claim7.holds Tryz.pinned (.plain (OpenSpec.upto fnGjCountSpec)) fnGjCountUptoCard

/-- THE SECOND FORM's CARD OF 'laws.FnGjGroup'. -/
def fnGjGroupUptoCard : Claim7 := { stood := { row := fnGjGroupUptoRow, standIns := [], harness := (true, "735094f3baba6f9b515fbe1248fd62cc9c6db9908d9ed7029b599431ded168f0"), looks := true }, kinds := [], alts := [], laidByText := true, laidKinds := [.data, .data, .widerDeep, .widerDeep, .data, .data, .data, .data, .data, .data, .sentinel, .sentinel, .data, .data, .pinned, .pinned, .pinned], laidTests := true, laidLooks := .later }
def FnGjGroupUptoCardSaid : Prop := Claim7.holds Tryz.pinned (.plain (OpenSpec.upto fnGjGroupSpec)) fnGjGroupUptoCard

/-- THE SECOND FORM's CARD OF 'laws.FnGjMember'. -/
def fnGjMemberUptoCard : Claim7 := { stood := { row := fnGjMemberUptoRow, standIns := [], harness := (true, "735094f3baba6f9b515fbe1248fd62cc9c6db9908d9ed7029b599431ded168f0"), looks := true }, kinds := [], alts := [], laidByText := true, laidKinds := [.data, .data, .widerDeep, .widerDeep, .data, .data, .data, .data, .data, .data, .sentinel, .sentinel, .data, .data, .pinned, .pinned, .pinned], laidTests := true, laidLooks := .later }
def FnGjMemberUptoCardSaid : Prop := Claim7.holds Tryz.pinned (.plain (OpenSpec.upto fnGjMemberSpec)) fnGjMemberUptoCard

/-- THE SECOND FORM's CARD OF 'laws.FnGjQueryBool'. -/
def fnGjQueryBoolUptoCard : Claim7 := { stood := { row := fnGjQueryBoolUptoRow, standIns := [], harness := (true, "735094f3baba6f9b515fbe1248fd62cc9c6db9908d9ed7029b599431ded168f0"), looks := true }, kinds := [], alts := [], laidByText := true, laidKinds := [.data, .data, .widerDeep, .widerDeep, .data, .data, .data, .data, .data, .data, .sentinel, .sentinel, .data, .data, .pinned, .pinned, .pinned], laidTests := true, laidLooks := .later }
def FnGjQueryBoolUptoCardSaid : Prop := Claim7.holds Tryz.pinned (.plain (OpenSpec.upto fnGjQueryBoolSpec)) fnGjQueryBoolUptoCard

/-- THE SECOND FORM's CARD OF 'laws.FnGjThis'. -/
def fnGjThisUptoCard : Claim7 := { stood := { row := fnGjThisUptoRow, standIns := [], harness := (true, "735094f3baba6f9b515fbe1248fd62cc9c6db9908d9ed7029b599431ded168f0"), looks := true }, kinds := [], alts := [], laidByText := true, laidKinds := [.data, .data, .widerDeep, .widerDeep, .data, .data, .data, .data, .data, .data, .sentinel, .sentinel, .data, .data, .pinned, .pinned, .pinned], laidTests := true, laidLooks := .later }
def FnGjThisUptoCardSaid : Prop := Claim7.holds Tryz.pinned (.plain (OpenSpec.upto fnGjThisSpec)) fnGjThisUptoCard

/-- THE SECOND FORM's CARD OF 'laws.FnGjObjectPathWild'. -/
def fnGjObjectPathWildUptoCard : Claim7 := { stood := { row := fnGjObjectPathWildUptoRow, standIns := [], harness := (true, "735094f3baba6f9b515fbe1248fd62cc9c6db9908d9ed7029b599431ded168f0"), looks := true }, kinds := [], alts := [], laidByText := true, laidKinds := [.data, .data, .widerDeep, .widerDeep, .data, .data, .data, .data, .data, .data, .sentinel, .sentinel, .data, .data, .pinned, .pinned, .pinned], laidTests := true, laidLooks := .later }
def FnGjObjectPathWildUptoCardSaid : Prop := Claim7.holds Tryz.pinned (.plain (OpenSpec.upto fnGjObjectPathWildSpec)) fnGjObjectPathWildUptoCard

/-- THE SECOND FORM's CARD OF 'laws.FnGjPrettyGet'. -/
def fnGjPrettyGetUptoCard : Claim7 := { stood := { row := fnGjPrettyGetUptoRow, standIns := [], harness := (true, "735094f3baba6f9b515fbe1248fd62cc9c6db9908d9ed7029b599431ded168f0"), looks := true }, kinds := [], alts := [], laidByText := true, laidKinds := [.data, .data, .widerDeep, .widerDeep, .data, .data, .data, .data, .data, .data, .sentinel, .sentinel, .data, .data, .pinned, .pinned, .pinned], laidTests := true, laidLooks := .later }
def FnGjPrettyGetUptoCardSaid : Prop := Claim7.holds Tryz.pinned (.plain (OpenSpec.upto fnGjPrettyGetSpec)) fnGjPrettyGetUptoCard

/-- THE SECOND FORM's CARD OF 'laws.FnGjPathOf'. -/
def fnGjPathOfUptoCard : Claim7 := { stood := { row := fnGjPathOfUptoRow, standIns := [], harness := (true, "735094f3baba6f9b515fbe1248fd62cc9c6db9908d9ed7029b599431ded168f0"), looks := true }, kinds := [], alts := [], laidByText := true, laidKinds := [.data, .data, .widerDeep, .widerDeep, .data, .data, .data, .data, .data, .data, .sentinel, .sentinel, .data, .data, .pinned, .pinned, .pinned], laidTests := true, laidLooks := .later }
def FnGjPathOfUptoCardSaid : Prop := Claim7.holds Tryz.pinned (.plain (OpenSpec.upto fnGjPathOfSpec)) fnGjPathOfUptoCard
end Rows
end Go.Proofs.YtdpjmhbjenalkaaGreatDoor
