/-
  DERIVED. GIVEN WITH THE SEED: THE CARDS: each row of YtpnkgjnljbknnaaDoorRows.lean that lists a variable, with what it lists TIED to the program's text (the seventh form; the later family's looks); each row that meets fmt, with fmt's text TOLD by the authors' own Lean function (tested against real Go, not proved from fmt's source: count such statements apart). THE CARD IS WHAT COUNTS. Prove the row's statement (the work); the ties are given (YtpnkgjnljbknnaaDoorTie.lean); close each card by the builder's one call (the guide's Derived/Test/ToyasCard.lean, 'card_holds'). Laid BY PROGRAM, IN A SANDBOX (cutbox-door.mjs). By AI agents, Wed Nov 11 2026. No macro, syntax, notation, axiom, sorry.
-/
import Derived.Test.YtpnkgjnljbknnaaDoorRows
import GoSem.ClaimSeven
namespace Go.Proofs.YtpnkgjnljbknnaaDoor
namespace Rows

/-- THE TIED CARD OF 'laws.FnRotationsIs'. -/
def fnRotationsIsCard : Claim7 := { stood := { row := fnRotationsIsRow, standIns := [], harness := (true, "37b33578f4c0e9d6a778cebc952d563fb67316b80ee9270bd2cedebbb194de4b"), looks := false }, kinds := [], alts := [], laidByText := true, laidKinds := [.data], laidTests := true, laidLooks := .later }
def FnRotationsIsCardSaid : Prop := Claim7.holds Tryd.pinned (.plain (OpenSpec.ofChange fnRotationsIsSpec)) fnRotationsIsCard

/-- THE TIED CARD OF 'laws.FnPermuteBits'. -/
def fnPermuteBitsCard : Claim7 := { stood := { row := fnPermuteBitsRow, standIns := [], harness := (true, "37b33578f4c0e9d6a778cebc952d563fb67316b80ee9270bd2cedebbb194de4b"), looks := false }, kinds := [], alts := [], laidByText := true, laidKinds := [.widerDeep, .widerDeep, .widerDeep, .widerDeep, .widerDeep, .widerDeep], laidTests := true, laidLooks := .later }
def FnPermuteBitsCardSaid : Prop := Claim7.holds Tryd.pinned (.plain (OpenSpec.ofChange fnPermuteBitsSpec)) fnPermuteBitsCard

/-- THE TIED CARD OF 'laws.FnPermuteIs'. -/
def fnPermuteIsCard : Claim7 := { stood := { row := fnPermuteIsRow, standIns := [], harness := (true, "37b33578f4c0e9d6a778cebc952d563fb67316b80ee9270bd2cedebbb194de4b"), looks := false }, kinds := [], alts := [], laidByText := true, laidKinds := [.data, .data, .data, .data, .widerDeep, .widerDeep, .widerDeep, .widerDeep, .widerDeep, .widerDeep], laidTests := true, laidLooks := .later }
def FnPermuteIsCardSaid : Prop := Claim7.holds Tryd.pinned (.plain (OpenSpec.ofChange fnPermuteIsSpec)) fnPermuteIsCard

/-- THE TIED CARD OF 'laws.FnSubkeysIs'. -/
def fnSubkeysIsCard : Claim7 := { stood := { row := fnSubkeysIsRow, standIns := [], harness := (true, "37b33578f4c0e9d6a778cebc952d563fb67316b80ee9270bd2cedebbb194de4b"), looks := false }, kinds := [], alts := [], laidByText := true, laidKinds := [.data, .data, .widerDeep, .widerDeep, .data], laidTests := true, laidLooks := .later }
def FnSubkeysIsCardSaid : Prop := Claim7.holds Tryd.pinned (.plain (OpenSpec.ofChange fnSubkeysIsSpec)) fnSubkeysIsCard

/-- THE TIED CARD OF 'laws.FnKeySizes'. -/
def fnKeySizesCard : Claim7 := { stood := { row := fnKeySizesRow, standIns := [], harness := (true, "37b33578f4c0e9d6a778cebc952d563fb67316b80ee9270bd2cedebbb194de4b"), looks := false }, kinds := [], alts := [], laidByText := true, laidKinds := [.widerDeep, .widerDeep, .data], laidTests := true, laidLooks := .later }
def FnKeySizesCardSaid : Prop := Claim7.holds Tryd.pinned (.plain (OpenSpec.ofChange fnKeySizesSpec)) fnKeySizesCard

/-- THE TIED CARD OF 'laws.FnPermuteRoads'. -/
def fnPermuteRoadsCard : Claim7 := { stood := { row := fnPermuteRoadsRow, standIns := [], harness := (true, "37b33578f4c0e9d6a778cebc952d563fb67316b80ee9270bd2cedebbb194de4b"), looks := false }, kinds := [], alts := [], laidByText := true, laidKinds := [.widerDeep, .widerDeep, .widerDeep, .widerDeep, .widerDeep, .widerDeep], laidTests := true, laidLooks := .later }
def FnPermuteRoadsCardSaid : Prop := Claim7.holds Tryd.pinned (.plain (OpenSpec.ofChange fnPermuteRoadsSpec)) fnPermuteRoadsCard

/-- THE SECOND FORM's CARD OF 'laws.FnRotationsIs'. -/
def fnRotationsIsUptoCard : Claim7 := { stood := { row := fnRotationsIsUptoRow, standIns := [], harness := (true, "37b33578f4c0e9d6a778cebc952d563fb67316b80ee9270bd2cedebbb194de4b"), looks := false }, kinds := [], alts := [], laidByText := true, laidKinds := [.data], laidTests := true, laidLooks := .later }
def FnRotationsIsUptoCardSaid : Prop := Claim7.holds Tryd.pinned (.plain (OpenSpec.upto fnRotationsIsSpec)) fnRotationsIsUptoCard

/-- THE SECOND FORM's CARD OF 'laws.FnPermuteBits'. -/
def fnPermuteBitsUptoCard : Claim7 := { stood := { row := fnPermuteBitsUptoRow, standIns := [], harness := (true, "37b33578f4c0e9d6a778cebc952d563fb67316b80ee9270bd2cedebbb194de4b"), looks := false }, kinds := [], alts := [], laidByText := true, laidKinds := [.widerDeep, .widerDeep, .widerDeep, .widerDeep, .widerDeep, .widerDeep], laidTests := true, laidLooks := .later }
def FnPermuteBitsUptoCardSaid : Prop := Claim7.holds Tryd.pinned (.plain (OpenSpec.upto fnPermuteBitsSpec)) fnPermuteBitsUptoCard

/-- THE SECOND FORM's CARD OF 'laws.FnPermuteIs'. -/
def fnPermuteIsUptoCard : Claim7 := { stood := { row := fnPermuteIsUptoRow, standIns := [], harness := (true, "37b33578f4c0e9d6a778cebc952d563fb67316b80ee9270bd2cedebbb194de4b"), looks := false }, kinds := [], alts := [], laidByText := true, laidKinds := [.data, .data, .data, .data, .widerDeep, .widerDeep, .widerDeep, .widerDeep, .widerDeep, .widerDeep], laidTests := true, laidLooks := .later }
def FnPermuteIsUptoCardSaid : Prop := Claim7.holds Tryd.pinned (.plain (OpenSpec.upto fnPermuteIsSpec)) fnPermuteIsUptoCard

/-- THE SECOND FORM's CARD OF 'laws.FnSubkeysIs'. -/
def fnSubkeysIsUptoCard : Claim7 := { stood := { row := fnSubkeysIsUptoRow, standIns := [], harness := (true, "37b33578f4c0e9d6a778cebc952d563fb67316b80ee9270bd2cedebbb194de4b"), looks := false }, kinds := [], alts := [], laidByText := true, laidKinds := [.data, .data, .widerDeep, .widerDeep, .data], laidTests := true, laidLooks := .later }
def FnSubkeysIsUptoCardSaid : Prop := Claim7.holds Tryd.pinned (.plain (OpenSpec.upto fnSubkeysIsSpec)) fnSubkeysIsUptoCard

/-- THE SECOND FORM's CARD OF 'laws.FnKeySizes'. -/
def fnKeySizesUptoCard : Claim7 := { stood := { row := fnKeySizesUptoRow, standIns := [], harness := (true, "37b33578f4c0e9d6a778cebc952d563fb67316b80ee9270bd2cedebbb194de4b"), looks := false }, kinds := [], alts := [], laidByText := true, laidKinds := [.widerDeep, .widerDeep, .data], laidTests := true, laidLooks := .later }
def FnKeySizesUptoCardSaid : Prop := Claim7.holds Tryd.pinned (.plain (OpenSpec.upto fnKeySizesSpec)) fnKeySizesUptoCard

/-- THE SECOND FORM's CARD OF 'laws.FnPermuteRoads'. -/
def fnPermuteRoadsUptoCard : Claim7 := { stood := { row := fnPermuteRoadsUptoRow, standIns := [], harness := (true, "37b33578f4c0e9d6a778cebc952d563fb67316b80ee9270bd2cedebbb194de4b"), looks := false }, kinds := [], alts := [], laidByText := true, laidKinds := [.widerDeep, .widerDeep, .widerDeep, .widerDeep, .widerDeep, .widerDeep], laidTests := true, laidLooks := .later }
def FnPermuteRoadsUptoCardSaid : Prop := Claim7.holds Tryd.pinned (.plain (OpenSpec.upto fnPermuteRoadsSpec)) fnPermuteRoadsUptoCard
end Rows
end Go.Proofs.YtpnkgjnljbknnaaDoor
