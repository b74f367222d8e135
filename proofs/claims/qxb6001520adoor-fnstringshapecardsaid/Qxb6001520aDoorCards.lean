/-
  DERIVED. GIVEN WITH THE SEED: THE CARDS: each row of Qxb6001520aDoorRows.lean that lists a variable, with what it lists TIED to the program's text (the seventh form; the later family's looks); each row that meets fmt, with fmt's text TOLD by the authors' own Lean function (tested against real Go, not proved from fmt's source: count such statements apart). THE CARD IS WHAT COUNTS. Prove the row's statement (the work); the ties are given (Qxb6001520aDoorTie.lean); close each card by the builder's one call (the guide's Derived/Test/ToyasCard.lean, 'card_holds'). Laid BY PROGRAM, IN A SANDBOX (cutbox-door.mjs). By AI agents, Wed Nov 11 2026. No macro, syntax, notation, axiom, sorry.
-/
import Derived.Test.Qxb6001520aDoorRows
import GoSem.ClaimSeven
namespace Go.Proofs.Qxb6001520aDoor
namespace Rows

/-- THE TIED CARD OF 'zzlaws_usd_b1.FnSignAgreesWithString'. -/
def fnSignAgreesWithStringCard : Claim7 := { stood := { row := fnSignAgreesWithStringRow, standIns := [], harness := (true, "b33460feee7cfa21ea4d6547188f73579f717bda85cc5babe9c0096b4111f91d"), looks := false }, kinds := [], alts := [], laidByText := true, laidKinds := [.data, .data, .data], laidTests := true, laidLooks := .later }
def FnSignAgreesWithStringCardSaid : Prop := Claim7.holds Tryd.pinned (.plain (OpenSpec.ofChange fnSignAgreesWithStringSpec)) fnSignAgreesWithStringCard

/-- THE TIED CARD OF 'zzlaws_usd_b1.FnStringRoundTrip'. -/
def fnStringRoundTripCard : Claim7 := { stood := { row := fnStringRoundTripRow, standIns := [], harness := (true, "b33460feee7cfa21ea4d6547188f73579f717bda85cc5babe9c0096b4111f91d"), looks := false }, kinds := [], alts := [], laidByText := true, laidKinds := [.data, .data, .data], laidTests := true, laidLooks := .later }
def FnStringRoundTripCardSaid : Prop := Claim7.holds Tryd.pinned (.plain (OpenSpec.ofChange fnStringRoundTripSpec)) fnStringRoundTripCard

/-- THE TIED CARD OF 'zzlaws_usd_b1.FnStringShape'. -/
def fnStringShapeCard : Claim7 := { stood := { row := fnStringShapeRow, standIns := [], harness := (true, "b33460feee7cfa21ea4d6547188f73579f717bda85cc5babe9c0096b4111f91d"), looks := false }, kinds := [], alts := [], laidByText := true, laidKinds := [.data, .data, .data], laidTests := true, laidLooks := .later }
def FnStringShapeCardSaid : Prop := Claim7.holds Tryd.pinned (.plain (OpenSpec.ofChange fnStringShapeSpec)) fnStringShapeCard

/-- THE TIED CARD OF 'zzlaws_usd_b1.FnNegationMirrors'. -/
def fnNegationMirrorsCard : Claim7 := { stood := { row := fnNegationMirrorsRow, standIns := [], harness := (true, "b33460feee7cfa21ea4d6547188f73579f717bda85cc5babe9c0096b4111f91d"), looks := false }, kinds := [], alts := [], laidByText := true, laidKinds := [.data, .data, .data], laidTests := true, laidLooks := .later }
def FnNegationMirrorsCardSaid : Prop := Claim7.holds Tryd.pinned (.plain (OpenSpec.ofChange fnNegationMirrorsSpec)) fnNegationMirrorsCard
end Rows
end Go.Proofs.Qxb6001520aDoor
