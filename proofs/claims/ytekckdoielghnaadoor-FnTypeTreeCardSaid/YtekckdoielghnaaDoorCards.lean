/-
  DERIVED. GIVEN WITH THE SEED: THE CARDS: each row of YtekckdoielghnaaDoorRows.lean that lists a variable, with what it lists TIED to the program's text (the seventh form; the later family's looks); each row that meets fmt, with fmt's text TOLD by the authors' own Lean function (tested against real Go, not proved from fmt's source: count such statements apart). THE CARD IS WHAT COUNTS. Prove the row's statement (the work); the ties are given (YtekckdoielghnaaDoorTie.lean); close each card by the builder's one call (the guide's Derived/Test/ToyasCard.lean, 'card_holds'). Laid BY PROGRAM, IN A SANDBOX (cutbox-door.mjs). By AI agents, Wed Nov 11 2026. No macro, syntax, notation, axiom, sorry.
-/
import Derived.Test.YtekckdoielghnaaDoorRows
import GoSem.ClaimSeven
namespace Go.Proofs.YtekckdoielghnaaDoor
namespace Rows

/-- THE TIED CARD OF 'laws.FnTypeKinds'. -/
def fnTypeKindsCard : Claim7 := { stood := { row := fnTypeKindsRow, standIns := [], harness := (true, "1a758aba8a9a6ff2ea622e1a52c7b83b383d4d50efc6c38a4ddc38b464bf8c62"), looks := false }, kinds := [], alts := [], laidByText := true, laidKinds := [.data, .data, .data], laidTests := true, laidLooks := .later }
def FnTypeKindsCardSaid : Prop := Claim7.holds Tryd.pinned (.plain (OpenSpec.ofChange fnTypeKindsSpec)) fnTypeKindsCard

/-- THE TIED CARD OF 'laws.FnTypeIn'. -/
def fnTypeInCard : Claim7 := { stood := { row := fnTypeInRow, standIns := [], harness := (true, "1a758aba8a9a6ff2ea622e1a52c7b83b383d4d50efc6c38a4ddc38b464bf8c62"), looks := false }, kinds := [], alts := [], laidByText := true, laidKinds := [.data, .data, .data], laidTests := true, laidLooks := .later }
def FnTypeInCardSaid : Prop := Claim7.holds Tryd.pinned (.plain (OpenSpec.ofChange fnTypeInSpec)) fnTypeInCard

/-- THE TIED CARD OF 'laws.FnTypeTree'. -/
def fnTypeTreeCard : Claim7 := { stood := { row := fnTypeTreeRow, standIns := [], harness := (true, "1a758aba8a9a6ff2ea622e1a52c7b83b383d4d50efc6c38a4ddc38b464bf8c62"), looks := false }, kinds := [], alts := [], laidByText := true, laidKinds := [.data, .data, .data], laidTests := true, laidLooks := .later }
def FnTypeTreeCardSaid : Prop := Claim7.holds Tryd.pinned (.plain (OpenSpec.ofChange fnTypeTreeSpec)) fnTypeTreeCard

/-- THE SECOND FORM's CARD OF 'laws.FnTypeKinds'. -/
def fnTypeKindsUptoCard : Claim7 := { stood := { row := fnTypeKindsUptoRow, standIns := [], harness := (true, "1a758aba8a9a6ff2ea622e1a52c7b83b383d4d50efc6c38a4ddc38b464bf8c62"), looks := false }, kinds := [], alts := [], laidByText := true, laidKinds := [.data, .data, .data], laidTests := true, laidLooks := .later }
def FnTypeKindsUptoCardSaid : Prop := Claim7.holds Tryd.pinned (.plain (OpenSpec.upto fnTypeKindsSpec)) fnTypeKindsUptoCard

/-- THE SECOND FORM's CARD OF 'laws.FnTypeIn'. -/
def fnTypeInUptoCard : Claim7 := { stood := { row := fnTypeInUptoRow, standIns := [], harness := (true, "1a758aba8a9a6ff2ea622e1a52c7b83b383d4d50efc6c38a4ddc38b464bf8c62"), looks := false }, kinds := [], alts := [], laidByText := true, laidKinds := [.data, .data, .data], laidTests := true, laidLooks := .later }
def FnTypeInUptoCardSaid : Prop := Claim7.holds Tryd.pinned (.plain (OpenSpec.upto fnTypeInSpec)) fnTypeInUptoCard

/-- THE SECOND FORM's CARD OF 'laws.FnTypeTree'. -/
def fnTypeTreeUptoCard : Claim7 := { stood := { row := fnTypeTreeUptoRow, standIns := [], harness := (true, "1a758aba8a9a6ff2ea622e1a52c7b83b383d4d50efc6c38a4ddc38b464bf8c62"), looks := false }, kinds := [], alts := [], laidByText := true, laidKinds := [.data, .data, .data], laidTests := true, laidLooks := .later }
def FnTypeTreeUptoCardSaid : Prop := Claim7.holds Tryd.pinned (.plain (OpenSpec.upto fnTypeTreeSpec)) fnTypeTreeUptoCard
end Rows
end Go.Proofs.YtekckdoielghnaaDoor
