/-
  DERIVED. GIVEN WITH THE SEED: THE CARDS: each row of YtebjclmbacmilaaGreatDoorRows.lean that lists a variable, with what it lists TIED to the program's text (the seventh form; the later family's looks); each row that meets fmt, with fmt's text TOLD by the authors' own Lean function (tested against real Go, not proved from fmt's source: count such statements apart). THE CARD IS WHAT COUNTS. Prove the row's statement (the work); the ties are given (YtebjclmbacmilaaGreatDoorTie.lean); close each card by the builder's one call (the guide's Derived/Test/ToyasCard.lean, 'card_holds'). Laid BY PROGRAM, IN A SANDBOX (cutbox-door.mjs). By AI agents, Wed Nov 11 2026. No macro, syntax, notation, axiom, sorry.
-/
import Derived.Test.YtebjclmbacmilaaGreatDoorRows
import GoSem.ClaimSeven
namespace Go.Proofs.YtebjclmbacmilaaGreatDoor
namespace Rows

/-- THE TIED CARD OF 'laws.FnHistAdds'. -/
def fnHistAddsCard : Claim7 := { stood := { row := fnHistAddsRow, standIns := [], harness := (true, "1045b5cf21ba01ace7f3de6c2379b9aa8d1d073a076216990fb778cbc0dfc3e9"), looks := true }, kinds := [], alts := [], laidByText := true, laidKinds := [.data, .sentinel, .sentinel, .widerDeep, .wider, .pinned], laidTests := true, laidLooks := .later }
def FnHistAddsCardSaid : Prop := Claim7.holds Tryz.pinned (.plain (OpenSpec.ofChange fnHistAddsSpec)) fnHistAddsCard

/-- THE TIED CARD OF 'laws.FnHistClassic'. -/
def fnHistClassicCard : Claim7 := { stood := { row := fnHistClassicRow, standIns := [], harness := (true, "1045b5cf21ba01ace7f3de6c2379b9aa8d1d073a076216990fb778cbc0dfc3e9"), looks := true }, kinds := [], alts := [], laidByText := true, laidKinds := [.data, .sentinel, .sentinel, .widerDeep, .wider, .pinned], laidTests := true, laidLooks := .later }
def FnHistClassicCardSaid : Prop := Claim7.holds Tryz.pinned (.plain (OpenSpec.ofChange fnHistClassicSpec)) fnHistClassicCard

/-- THE TIED CARD OF 'laws.FnHistCoarser'. -/
def fnHistCoarserCard : Claim7 := { stood := { row := fnHistCoarserRow, standIns := [], harness := (true, "1045b5cf21ba01ace7f3de6c2379b9aa8d1d073a076216990fb778cbc0dfc3e9"), looks := true }, kinds := [], alts := [], laidByText := true, laidKinds := [.data, .sentinel, .sentinel, .widerDeep, .wider, .pinned], laidTests := true, laidLooks := .later }
def FnHistCoarserCardSaid : Prop := Claim7.holds Tryz.pinned (.plain (OpenSpec.ofChange fnHistCoarserSpec)) fnHistCoarserCard

/-- THE TIED CARD OF 'laws.FnHistDefaults'. -/
def fnHistDefaultsCard : Claim7 := { stood := { row := fnHistDefaultsRow, standIns := [], harness := (true, "1045b5cf21ba01ace7f3de6c2379b9aa8d1d073a076216990fb778cbc0dfc3e9"), looks := true }, kinds := [], alts := [], laidByText := true, laidKinds := [.data, .sentinel, .sentinel, .widerDeep, .wider, .pinned], laidTests := true, laidLooks := .later }
def FnHistDefaultsCardSaid : Prop := Claim7.holds Tryz.pinned (.plain (OpenSpec.ofChange fnHistDefaultsSpec)) fnHistDefaultsCard

/-- THE TIED CARD OF 'laws.FnHistExemplars'. -/
def fnHistExemplarsCard : Claim7 := { stood := { row := fnHistExemplarsRow, standIns := [], harness := (true, "1045b5cf21ba01ace7f3de6c2379b9aa8d1d073a076216990fb778cbc0dfc3e9"), looks := true }, kinds := [], alts := [], laidByText := true, laidKinds := [.data, .sentinel, .sentinel, .widerDeep, .wider, .pinned], laidTests := true, laidLooks := .later }
def FnHistExemplarsCardSaid : Prop := Claim7.holds Tryz.pinned (.plain (OpenSpec.ofChange fnHistExemplarsSpec)) fnHistExemplarsCard

/-- THE TIED CARD OF 'laws.FnHistRefused'. -/
def fnHistRefusedCard : Claim7 := { stood := { row := fnHistRefusedRow, standIns := [], harness := (true, "1045b5cf21ba01ace7f3de6c2379b9aa8d1d073a076216990fb778cbc0dfc3e9"), looks := true }, kinds := [], alts := [], laidByText := true, laidKinds := [.data, .sentinel, .sentinel, .widerDeep, .wider, .pinned], laidTests := true, laidLooks := .later }
def FnHistRefusedCardSaid : Prop := Claim7.holds Tryz.pinned (.plain (OpenSpec.ofChange fnHistRefusedSpec)) fnHistRefusedCard

/-- THE TIED CARD OF 'laws.FnNativeReset'. -/
def fnNativeResetCard : Claim7 := { stood := { row := fnNativeResetRow, standIns := [], harness := (true, "1045b5cf21ba01ace7f3de6c2379b9aa8d1d073a076216990fb778cbc0dfc3e9"), looks := true }, kinds := [], alts := [], laidByText := true, laidKinds := [.data, .sentinel, .sentinel, .widerDeep, .wider, .pinned], laidTests := true, laidLooks := .later }
def FnNativeResetCardSaid : Prop := Claim7.holds Tryz.pinned (.plain (OpenSpec.ofChange fnNativeResetSpec)) fnNativeResetCard

/-- THE TIED CARD OF 'laws.FnNativeSigns'. -/
def fnNativeSignsCard : Claim7 := { stood := { row := fnNativeSignsRow, standIns := [], harness := (true, "1045b5cf21ba01ace7f3de6c2379b9aa8d1d073a076216990fb778cbc0dfc3e9"), looks := true }, kinds := [], alts := [], laidByText := true, laidKinds := [.data, .sentinel, .sentinel, .widerDeep, .wider, .pinned], laidTests := true, laidLooks := .later }
def FnNativeSignsCardSaid : Prop := Claim7.holds Tryz.pinned (.plain (OpenSpec.ofChange fnNativeSignsSpec)) fnNativeSignsCard

/-- THE TIED CARD OF 'laws.FnNativeUnder'. -/
def fnNativeUnderCard : Claim7 := { stood := { row := fnNativeUnderRow, standIns := [], harness := (true, "1045b5cf21ba01ace7f3de6c2379b9aa8d1d073a076216990fb778cbc0dfc3e9"), looks := true }, kinds := [], alts := [], laidByText := true, laidKinds := [.data, .sentinel, .sentinel, .widerDeep, .wider, .pinned], laidTests := true, laidLooks := .later }
def FnNativeUnderCardSaid : Prop := Claim7.holds Tryz.pinned (.plain (OpenSpec.ofChange fnNativeUnderSpec)) fnNativeUnderCard

/-- THE TIED CARD OF 'laws.FnExponential'. -/
def fnExponentialCard : Claim7 := { stood := { row := fnExponentialRow, standIns := [], harness := (true, "1045b5cf21ba01ace7f3de6c2379b9aa8d1d073a076216990fb778cbc0dfc3e9"), looks := true }, kinds := [], alts := [], laidByText := true, laidKinds := [.data, .sentinel, .sentinel, .widerDeep, .wider, .pinned], laidTests := true, laidLooks := .later }
def FnExponentialCardSaid : Prop := Claim7.holds Tryz.pinned (.plain (OpenSpec.ofChange fnExponentialSpec)) fnExponentialCard

/-- THE SECOND FORM's CARD OF 'laws.FnHistAdds'. -/
def fnHistAddsUptoCard : Claim7 := { stood := { row := fnHistAddsUptoRow, standIns := [], harness := (true, "1045b5cf21ba01ace7f3de6c2379b9aa8d1d073a076216990fb778cbc0dfc3e9"), looks := true }, kinds := [], alts := [], laidByText := true, laidKinds := [.data, .sentinel, .sentinel, .widerDeep, .wider, .pinned], laidTests := true, laidLooks := .later }
def FnHistAddsUptoCardSaid : Prop := Claim7.holds Tryz.pinned (.plain (OpenSpec.upto fnHistAddsSpec)) fnHistAddsUptoCard

/-- THE SECOND FORM's CARD OF 'laws.FnHistClassic'. -/
def fnHistClassicUptoCard : Claim7 := { stood := { row := fnHistClassicUptoRow, standIns := [], harness := (true, "1045b5cf21ba01ace7f3de6c2379b9aa8d1d073a076216990fb778cbc0dfc3e9"), looks := true }, kinds := [], alts := [], laidByText := true, laidKinds := [.data, .sentinel, .sentinel, .widerDeep, .wider, .pinned], laidTests := true, laidLooks := .later }
def FnHistClassicUptoCardSaid : Prop := Claim7.holds Tryz.pinned (.plain (OpenSpec.upto fnHistClassicSpec)) fnHistClassicUptoCard

/-- THE SECOND FORM's CARD OF 'laws.FnHistCoarser'. -/
def fnHistCoarserUptoCard : Claim7 := { stood := { row := fnHistCoarserUptoRow, standIns := [], harness := (true, "1045b5cf21ba01ace7f3de6c2379b9aa8d1d073a076216990fb778cbc0dfc3e9"), looks := true }, kinds := [], alts := [], laidByText := true, laidKinds := [.data, .sentinel, .sentinel, .widerDeep, .wider, .pinned], laidTests := true, laidLooks := .later }
def FnHistCoarserUptoCardSaid : Prop := Claim7.holds Tryz.pinned (.plain (OpenSpec.upto fnHistCoarserSpec)) fnHistCoarserUptoCard

/-- THE SECOND FORM's CARD OF 'laws.FnHistDefaults'. -/
def fnHistDefaultsUptoCard : Claim7 := { stood := { row := fnHistDefaultsUptoRow, standIns := [], harness := (true, "1045b5cf21ba01ace7f3de6c2379b9aa8d1d073a076216990fb778cbc0dfc3e9"), looks := true }, kinds := [], alts := [], laidByText := true, laidKinds := [.data, .sentinel, .sentinel, .widerDeep, .wider, .pinned], laidTests := true, laidLooks := .later }
def FnHistDefaultsUptoCardSaid : Prop := Claim7.holds Tryz.pinned (.plain (OpenSpec.upto fnHistDefaultsSpec)) fnHistDefaultsUptoCard

/-- THE SECOND FORM's CARD OF 'laws.FnHistExemplars'. -/
def fnHistExemplarsUptoCard : Claim7 := { stood := { row := fnHistExemplarsUptoRow, standIns := [], harness := (true, "1045b5cf21ba01ace7f3de6c2379b9aa8d1d073a076216990fb778cbc0dfc3e9"), looks := true }, kinds := [], alts := [], laidByText := true, laidKinds := [.data, .sentinel, .sentinel, .widerDeep, .wider, .pinned], laidTests := true, laidLooks := .later }
def FnHistExemplarsUptoCardSaid : Prop := Claim7.holds Tryz.pinned (.plain (OpenSpec.upto fnHistExemplarsSpec)) fnHistExemplarsUptoCard

/-- THE SECOND FORM's CARD OF 'laws.FnHistRefused'. -/
def fnHistRefusedUptoCard : Claim7 := { stood := { row := fnHistRefusedUptoRow, standIns := [], harness := (true, "1045b5cf21ba01ace7f3de6c2379b9aa8d1d073a076216990fb778cbc0dfc3e9"), looks := true }, kinds := [], alts := [], laidByText := true, laidKinds := [.data, .sentinel, .sentinel, .widerDeep, .wider, .pinned], laidTests := true, laidLooks := .later }
def FnHistRefusedUptoCardSaid : Prop := Claim7.holds Tryz.pinned (.plain (OpenSpec.upto fnHistRefusedSpec)) fnHistRefusedUptoCard

/-- THE SECOND FORM's CARD OF 'laws.FnNativeReset'. -/
def fnNativeResetUptoCard : Claim7 := { stood := { row := fnNativeResetUptoRow, standIns := [], harness := (true, "1045b5cf21ba01ace7f3de6c2379b9aa8d1d073a076216990fb778cbc0dfc3e9"), looks := true }, kinds := [], alts := [], laidByText := true, laidKinds := [.data, .sentinel, .sentinel, .widerDeep, .wider, .pinned], laidTests := true, laidLooks := .later }
def FnNativeResetUptoCardSaid : Prop := Claim7.holds Tryz.pinned (.plain (OpenSpec.upto fnNativeResetSpec)) fnNativeResetUptoCard

/-- THE SECOND FORM's CARD OF 'laws.FnNativeSigns'. -/
def fnNativeSignsUptoCard : Claim7 := { stood := { row := fnNativeSignsUptoRow, standIns := [], harness := (true, "1045b5cf21ba01ace7f3de6c2379b9aa8d1d073a076216990fb778cbc0dfc3e9"), looks := true }, kinds := [], alts := [], laidByText := true, laidKinds := [.data, .sentinel, .sentinel, .widerDeep, .wider, .pinned], laidTests := true, laidLooks := .later }
def FnNativeSignsUptoCardSaid : Prop := Claim7.holds Tryz.pinned (.plain (OpenSpec.upto fnNativeSignsSpec)) fnNativeSignsUptoCard

/-- THE SECOND FORM's CARD OF 'laws.FnNativeUnder'. -/
def fnNativeUnderUptoCard : Claim7 := { stood := { row := fnNativeUnderUptoRow, standIns := [], harness := (true, "1045b5cf21ba01ace7f3de6c2379b9aa8d1d073a076216990fb778cbc0dfc3e9"), looks := true }, kinds := [], alts := [], laidByText := true, laidKinds := [.data, .sentinel, .sentinel, .widerDeep, .wider, .pinned], laidTests := true, laidLooks := .later }
def FnNativeUnderUptoCardSaid : Prop := Claim7.holds Tryz.pinned (.plain (OpenSpec.upto fnNativeUnderSpec)) fnNativeUnderUptoCard

/-- THE SECOND FORM's CARD OF 'laws.FnExponential'. -/
def fnExponentialUptoCard : Claim7 := { stood := { row := fnExponentialUptoRow, standIns := [], harness := (true, "1045b5cf21ba01ace7f3de6c2379b9aa8d1d073a076216990fb778cbc0dfc3e9"), looks := true }, kinds := [], alts := [], laidByText := true, laidKinds := [.data, .sentinel, .sentinel, .widerDeep, .wider, .pinned], laidTests := true, laidLooks := .later }
def FnExponentialUptoCardSaid : Prop := Claim7.holds Tryz.pinned (.plain (OpenSpec.upto fnExponentialSpec)) fnExponentialUptoCard
end Rows
end Go.Proofs.YtebjclmbacmilaaGreatDoor
