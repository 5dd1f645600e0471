/-
  DERIVED. GIVEN WITH THE SEED: THE CARDS: each row of YtobloagecjhhiaaDoorRows.lean that lists a variable, with what it lists TIED to the program's text (the seventh form; the later family's looks); each row that meets fmt, with fmt's text TOLD by the authors' own Lean function (tested against real Go, not proved from fmt's source: count such statements apart). THE CARD IS WHAT COUNTS. Prove the row's statement (the work); the ties are given (YtobloagecjhhiaaDoorTie.lean); close each card by the builder's one call (the guide's Derived/Test/ToyasCard.lean, 'card_holds'). Laid BY PROGRAM, IN A SANDBOX (cutbox-door.mjs). By AI agents, Wed Nov 11 2026. No macro, syntax, notation, axiom, sorry.
-/
import Derived.Test.YtobloagecjhhiaaDoorRows
import GoSem.ClaimSeven
namespace Go.Proofs.YtobloagecjhhiaaDoor
namespace Rows

/-- THE TIED CARD OF 'laws.FnRects'. -/
def fnRectsCard : Claim7 := { stood := { row := fnRectsRow, standIns := [], harness := (true, "e99f9b5bf0b2ec7300739cbd3877becef993a3c704417c96a26f151e3a5b16fe"), looks := true }, kinds := [], alts := [], laidByText := true, laidKinds := [.data, .data, .widerDeep, .widerDeep, .data, .data, .data, .data, .data, .sentinel, .sentinel, .pinned, .pinned], laidTests := true, laidLooks := .later }
def FnRectsCardSaid : Prop := Claim7.holds Tryd.pinned (.plain (OpenSpec.ofChange fnRectsSpec)) fnRectsCard

/-- THE TIED CARD OF 'laws.FnTurns'. -/
def fnTurnsCard : Claim7 := { stood := { row := fnTurnsRow, standIns := [], harness := (true, "e99f9b5bf0b2ec7300739cbd3877becef993a3c704417c96a26f151e3a5b16fe"), looks := true }, kinds := [], alts := [], laidByText := true, laidKinds := [.data, .data, .widerDeep, .widerDeep, .data, .data, .data, .data, .data, .sentinel, .sentinel, .pinned, .pinned], laidTests := true, laidLooks := .later }
def FnTurnsCardSaid : Prop := Claim7.holds Tryd.pinned (.plain (OpenSpec.ofChange fnTurnsSpec)) fnTurnsCard

/-- THE TIED CARD OF 'laws.FnBox'. -/
def fnBoxCard : Claim7 := { stood := { row := fnBoxRow, standIns := [], harness := (true, "e99f9b5bf0b2ec7300739cbd3877becef993a3c704417c96a26f151e3a5b16fe"), looks := true }, kinds := [], alts := [], laidByText := true, laidKinds := [.data, .data, .widerDeep, .widerDeep, .data, .data, .data, .data, .data, .sentinel, .sentinel, .pinned, .pinned], laidTests := true, laidLooks := .later }
def FnBoxCardSaid : Prop := Claim7.holds Tryd.pinned (.plain (OpenSpec.ofChange fnBoxSpec)) fnBoxCard

/-- THE TIED CARD OF 'laws.FnDistance'. -/
def fnDistanceCard : Claim7 := { stood := { row := fnDistanceRow, standIns := [], harness := (true, "e99f9b5bf0b2ec7300739cbd3877becef993a3c704417c96a26f151e3a5b16fe"), looks := true }, kinds := [], alts := [], laidByText := true, laidKinds := [.data, .data, .widerDeep, .widerDeep, .data, .data, .data, .data, .data, .sentinel, .sentinel, .data, .pinned, .pinned], laidTests := true, laidLooks := .later }
def FnDistanceCardSaid : Prop := Claim7.holds Tryd.pinned (.plain (OpenSpec.ofChange fnDistanceSpec)) fnDistanceCard

/-- THE TIED CARD OF 'laws.FnGeoPlace'. -/
def fnGeoPlaceCard : Claim7 := { stood := { row := fnGeoPlaceRow, standIns := [], harness := (true, "e99f9b5bf0b2ec7300739cbd3877becef993a3c704417c96a26f151e3a5b16fe"), looks := true }, kinds := [], alts := [], laidByText := true, laidKinds := [.data, .data, .widerDeep, .widerDeep, .data, .data, .data, .data, .data, .sentinel, .sentinel, .data, .pinned, .pinned], laidTests := true, laidLooks := .later }
def FnGeoPlaceCardSaid : Prop := Claim7.holds Tryd.pinned (.plain (OpenSpec.ofChange fnGeoPlaceSpec)) fnGeoPlaceCard

/-- THE TIED CARD OF 'laws.FnMorton'. -/
def fnMortonCard : Claim7 := { stood := { row := fnMortonRow, standIns := [], harness := (true, "e99f9b5bf0b2ec7300739cbd3877becef993a3c704417c96a26f151e3a5b16fe"), looks := true }, kinds := [], alts := [], laidByText := true, laidKinds := [.data, .data, .widerDeep, .widerDeep, .data, .data, .data, .data, .data, .data, .data, .sentinel, .sentinel, .pinned, .pinned], laidTests := true, laidLooks := .later }
def FnMortonCardSaid : Prop := Claim7.holds Tryd.pinned (.plain (OpenSpec.ofChange fnMortonSpec)) fnMortonCard

/-- THE TIED CARD OF 'laws.FnGeoHash'. -/
def fnGeoHashCard : Claim7 := { stood := { row := fnGeoHashRow, standIns := [], harness := (true, "e99f9b5bf0b2ec7300739cbd3877becef993a3c704417c96a26f151e3a5b16fe"), looks := true }, kinds := [], alts := [], laidByText := true, laidKinds := [.data, .data, .widerDeep, .widerDeep, .data, .data, .data, .data, .data, .sentinel, .sentinel, .data, .pinned, .pinned], laidTests := true, laidLooks := .later }
def FnGeoHashCardSaid : Prop := Claim7.holds Tryd.pinned (.plain (OpenSpec.ofChange fnGeoHashSpec)) fnGeoHashCard

/-- THE SECOND FORM's CARD OF 'laws.FnRects'. -/
def fnRectsUptoCard : Claim7 := { stood := { row := fnRectsUptoRow, standIns := [], harness := (true, "e99f9b5bf0b2ec7300739cbd3877becef993a3c704417c96a26f151e3a5b16fe"), looks := true }, kinds := [], alts := [], laidByText := true, laidKinds := [.data, .data, .widerDeep, .widerDeep, .data, .data, .data, .data, .data, .sentinel, .sentinel, .pinned, .pinned], laidTests := true, laidLooks := .later }
def FnRectsUptoCardSaid : Prop := Claim7.holds Tryd.pinned (.plain (OpenSpec.upto fnRectsSpec)) fnRectsUptoCard

/-- THE SECOND FORM's CARD OF 'laws.FnTurns'. -/
def fnTurnsUptoCard : Claim7 := { stood := { row := fnTurnsUptoRow, standIns := [], harness := (true, "e99f9b5bf0b2ec7300739cbd3877becef993a3c704417c96a26f151e3a5b16fe"), looks := true }, kinds := [], alts := [], laidByText := true, laidKinds := [.data, .data, .widerDeep, .widerDeep, .data, .data, .data, .data, .data, .sentinel, .sentinel, .pinned, .pinned], laidTests := true, laidLooks := .later }
def FnTurnsUptoCardSaid : Prop := Claim7.holds Tryd.pinned (.plain (OpenSpec.upto fnTurnsSpec)) fnTurnsUptoCard

/-- THE SECOND FORM's CARD OF 'laws.FnBox'. -/
def fnBoxUptoCard : Claim7 := { stood := { row := fnBoxUptoRow, standIns := [], harness := (true, "e99f9b5bf0b2ec7300739cbd3877becef993a3c704417c96a26f151e3a5b16fe"), looks := true }, kinds := [], alts := [], laidByText := true, laidKinds := [.data, .data, .widerDeep, .widerDeep, .data, .data, .data, .data, .data, .sentinel, .sentinel, .pinned, .pinned], laidTests := true, laidLooks := .later }
def FnBoxUptoCardSaid : Prop := Claim7.holds Tryd.pinned (.plain (OpenSpec.upto fnBoxSpec)) fnBoxUptoCard

/-- THE SECOND FORM's CARD OF 'laws.FnDistance'. -/
def fnDistanceUptoCard : Claim7 := { stood := { row := fnDistanceUptoRow, standIns := [], harness := (true, "e99f9b5bf0b2ec7300739cbd3877becef993a3c704417c96a26f151e3a5b16fe"), looks := true }, kinds := [], alts := [], laidByText := true, laidKinds := [.data, .data, .widerDeep, .widerDeep, .data, .data, .data, .data, .data, .sentinel, .sentinel, .data, .pinned, .pinned], laidTests := true, laidLooks := .later }
def FnDistanceUptoCardSaid : Prop := Claim7.holds Tryd.pinned (.plain (OpenSpec.upto fnDistanceSpec)) fnDistanceUptoCard

/-- THE SECOND FORM's CARD OF 'laws.FnGeoPlace'. -/
def fnGeoPlaceUptoCard : Claim7 := { stood := { row := fnGeoPlaceUptoRow, standIns := [], harness := (true, "e99f9b5bf0b2ec7300739cbd3877becef993a3c704417c96a26f151e3a5b16fe"), looks := true }, kinds := [], alts := [], laidByText := true, laidKinds := [.data, .data, .widerDeep, .widerDeep, .data, .data, .data, .data, .data, .sentinel, .sentinel, .data, .pinned, .pinned], laidTests := true, laidLooks := .later }
def FnGeoPlaceUptoCardSaid : Prop := Claim7.holds Tryd.pinned (.plain (OpenSpec.upto fnGeoPlaceSpec)) fnGeoPlaceUptoCard

/-- THE SECOND FORM's CARD OF 'laws.FnMorton'. -/
def fnMortonUptoCard : Claim7 := { stood := { row := fnMortonUptoRow, standIns := [], harness := (true, "e99f9b5bf0b2ec7300739cbd3877becef993a3c704417c96a26f151e3a5b16fe"), looks := true }, kinds := [], alts := [], laidByText := true, laidKinds := [.data, .data, .widerDeep, .widerDeep, .data, .data, .data, .data, .data, .data, .data, .sentinel, .sentinel, .pinned, .pinned], laidTests := true, laidLooks := .later }
def FnMortonUptoCardSaid : Prop := Claim7.holds Tryd.pinned (.plain (OpenSpec.upto fnMortonSpec)) fnMortonUptoCard

/-- THE SECOND FORM's CARD OF 'laws.FnGeoHash'. -/
def fnGeoHashUptoCard : Claim7 := { stood := { row := fnGeoHashUptoRow, standIns := [], harness := (true, "e99f9b5bf0b2ec7300739cbd3877becef993a3c704417c96a26f151e3a5b16fe"), looks := true }, kinds := [], alts := [], laidByText := true, laidKinds := [.data, .data, .widerDeep, .widerDeep, .data, .data, .data, .data, .data, .sentinel, .sentinel, .data, .pinned, .pinned], laidTests := true, laidLooks := .later }
def FnGeoHashUptoCardSaid : Prop := Claim7.holds Tryd.pinned (.plain (OpenSpec.upto fnGeoHashSpec)) fnGeoHashUptoCard
end Rows
end Go.Proofs.YtobloagecjhhiaaDoor
