/-
  DERIVED. GIVEN WITH THE SEED: THE CARDS: each row of YtbnepbdlhpkiiaaDoorRows.lean that lists a variable, with what it lists TIED to the program's text (the seventh form; the later family's looks); each row that meets fmt, with fmt's text TOLD by the authors' own Lean function (tested against real Go, not proved from fmt's source: count such statements apart). THE CARD IS WHAT COUNTS. Prove the row's statement (the work); the ties are given (YtbnepbdlhpkiiaaDoorTie.lean); close each card by the builder's one call (the guide's Derived/Test/ToyasCard.lean, 'card_holds'). Laid BY PROGRAM, IN A SANDBOX (cutbox-door.mjs). By AI agents, Wed Nov 11 2026. No macro, syntax, notation, axiom, sorry.
-/
import Derived.Test.YtbnepbdlhpkiiaaDoorRows
import GoSem.ClaimSeven
namespace Go.Proofs.YtbnepbdlhpkiiaaDoor
namespace Rows

/-- THE TIED CARD OF 'laws.FnKeccakApart'. -/
def fnKeccakApartCard : Claim7 := { stood := { row := fnKeccakApartRow, standIns := [], harness := (true, "8738851144601d02341fca5b22585b8ad4697c9dbaffb0a41f7d431505654eeb"), looks := true }, kinds := [], alts := [], laidByText := true, laidKinds := [.data], laidTests := true, laidLooks := .later }
def FnKeccakApartCardSaid : Prop := Claim7.holds Tryd.pinned (.plain (OpenSpec.ofChange fnKeccakApartSpec)) fnKeccakApartCard

/-- THE TIED CARD OF 'laws.FnKeccakIs'. -/
def fnKeccakIsCard : Claim7 := { stood := { row := fnKeccakIsRow, standIns := [], harness := (true, "8738851144601d02341fca5b22585b8ad4697c9dbaffb0a41f7d431505654eeb"), looks := true }, kinds := [], alts := [], laidByText := true, laidKinds := [.data], laidTests := true, laidLooks := .later }
def FnKeccakIsCardSaid : Prop := Claim7.holds Tryd.pinned (.plain (OpenSpec.ofChange fnKeccakIsSpec)) fnKeccakIsCard

/-- THE TIED CARD OF 'laws.FnTurboIs'. -/
def fnTurboIsCard : Claim7 := { stood := { row := fnTurboIsRow, standIns := [], harness := (true, "8738851144601d02341fca5b22585b8ad4697c9dbaffb0a41f7d431505654eeb"), looks := true }, kinds := [], alts := [], laidByText := true, laidKinds := [.data], laidTests := true, laidLooks := .later }
def FnTurboIsCardSaid : Prop := Claim7.holds Tryd.pinned (.plain (OpenSpec.ofChange fnTurboIsSpec)) fnTurboIsCard

/-- THE TIED CARD OF 'laws.FnTurboPrefix'. -/
def fnTurboPrefixCard : Claim7 := { stood := { row := fnTurboPrefixRow, standIns := [], harness := (true, "8738851144601d02341fca5b22585b8ad4697c9dbaffb0a41f7d431505654eeb"), looks := true }, kinds := [], alts := [], laidByText := true, laidKinds := [.data], laidTests := true, laidLooks := .later }
def FnTurboPrefixCardSaid : Prop := Claim7.holds Tryd.pinned (.plain (OpenSpec.ofChange fnTurboPrefixSpec)) fnTurboPrefixCard

/-- THE TIED CARD OF 'laws.FnK12Is'. -/
def fnK12IsCard : Claim7 := { stood := { row := fnK12IsRow, standIns := [], harness := (true, "8738851144601d02341fca5b22585b8ad4697c9dbaffb0a41f7d431505654eeb"), looks := true }, kinds := [], alts := [], laidByText := true, laidKinds := [.data], laidTests := true, laidLooks := .later }
def FnK12IsCardSaid : Prop := Claim7.holds Tryd.pinned (.plain (OpenSpec.ofChange fnK12IsSpec)) fnK12IsCard

/-- THE TIED CARD OF 'laws.FnK12Pieces'. -/
def fnK12PiecesCard : Claim7 := { stood := { row := fnK12PiecesRow, standIns := [], harness := (true, "8738851144601d02341fca5b22585b8ad4697c9dbaffb0a41f7d431505654eeb"), looks := true }, kinds := [], alts := [], laidByText := true, laidKinds := [.data], laidTests := true, laidLooks := .later }
def FnK12PiecesCardSaid : Prop := Claim7.holds Tryd.pinned (.plain (OpenSpec.ofChange fnK12PiecesSpec)) fnK12PiecesCard

/-- THE TIED CARD OF 'laws.FnK12Again'. -/
def fnK12AgainCard : Claim7 := { stood := { row := fnK12AgainRow, standIns := [], harness := (true, "8738851144601d02341fca5b22585b8ad4697c9dbaffb0a41f7d431505654eeb"), looks := true }, kinds := [], alts := [], laidByText := true, laidKinds := [.data], laidTests := true, laidLooks := .later }
def FnK12AgainCardSaid : Prop := Claim7.holds Tryd.pinned (.plain (OpenSpec.ofChange fnK12AgainSpec)) fnK12AgainCard

/-- THE TIED CARD OF 'laws.FnK12Short'. -/
def fnK12ShortCard : Claim7 := { stood := { row := fnK12ShortRow, standIns := [], harness := (true, "8738851144601d02341fca5b22585b8ad4697c9dbaffb0a41f7d431505654eeb"), looks := true }, kinds := [], alts := [], laidByText := true, laidKinds := [.data], laidTests := true, laidLooks := .later }
def FnK12ShortCardSaid : Prop := Claim7.holds Tryd.pinned (.plain (OpenSpec.ofChange fnK12ShortSpec)) fnK12ShortCard

/-- THE TIED CARD OF 'laws.FnK12Clone'. -/
def fnK12CloneCard : Claim7 := { stood := { row := fnK12CloneRow, standIns := [], harness := (true, "8738851144601d02341fca5b22585b8ad4697c9dbaffb0a41f7d431505654eeb"), looks := true }, kinds := [], alts := [], laidByText := true, laidKinds := [.data], laidTests := true, laidLooks := .later }
def FnK12CloneCardSaid : Prop := Claim7.holds Tryd.pinned (.plain (OpenSpec.ofChange fnK12CloneSpec)) fnK12CloneCard

/-- THE SECOND FORM's CARD OF 'laws.FnKeccakApart'. -/
def fnKeccakApartUptoCard : Claim7 := { stood := { row := fnKeccakApartUptoRow, standIns := [], harness := (true, "8738851144601d02341fca5b22585b8ad4697c9dbaffb0a41f7d431505654eeb"), looks := true }, kinds := [], alts := [], laidByText := true, laidKinds := [.data], laidTests := true, laidLooks := .later }
def FnKeccakApartUptoCardSaid : Prop := Claim7.holds Tryd.pinned (.plain (OpenSpec.upto fnKeccakApartSpec)) fnKeccakApartUptoCard

/-- THE SECOND FORM's CARD OF 'laws.FnKeccakIs'. -/
def fnKeccakIsUptoCard : Claim7 := { stood := { row := fnKeccakIsUptoRow, standIns := [], harness := (true, "8738851144601d02341fca5b22585b8ad4697c9dbaffb0a41f7d431505654eeb"), looks := true }, kinds := [], alts := [], laidByText := true, laidKinds := [.data], laidTests := true, laidLooks := .later }
def FnKeccakIsUptoCardSaid : Prop := Claim7.holds Tryd.pinned (.plain (OpenSpec.upto fnKeccakIsSpec)) fnKeccakIsUptoCard

/-- THE SECOND FORM's CARD OF 'laws.FnTurboIs'. -/
def fnTurboIsUptoCard : Claim7 := { stood := { row := fnTurboIsUptoRow, standIns := [], harness := (true, "8738851144601d02341fca5b22585b8ad4697c9dbaffb0a41f7d431505654eeb"), looks := true }, kinds := [], alts := [], laidByText := true, laidKinds := [.data], laidTests := true, laidLooks := .later }
def FnTurboIsUptoCardSaid : Prop := Claim7.holds Tryd.pinned (.plain (OpenSpec.upto fnTurboIsSpec)) fnTurboIsUptoCard

/-- THE SECOND FORM's CARD OF 'laws.FnTurboPrefix'. -/
def fnTurboPrefixUptoCard : Claim7 := { stood := { row := fnTurboPrefixUptoRow, standIns := [], harness := (true, "8738851144601d02341fca5b22585b8ad4697c9dbaffb0a41f7d431505654eeb"), looks := true }, kinds := [], alts := [], laidByText := true, laidKinds := [.data], laidTests := true, laidLooks := .later }
def FnTurboPrefixUptoCardSaid : Prop := Claim7.holds Tryd.pinned (.plain (OpenSpec.upto fnTurboPrefixSpec)) fnTurboPrefixUptoCard

/-- THE SECOND FORM's CARD OF 'laws.FnK12Is'. -/
def fnK12IsUptoCard : Claim7 := { stood := { row := fnK12IsUptoRow, standIns := [], harness := (true, "8738851144601d02341fca5b22585b8ad4697c9dbaffb0a41f7d431505654eeb"), looks := true }, kinds := [], alts := [], laidByText := true, laidKinds := [.data], laidTests := true, laidLooks := .later }
def FnK12IsUptoCardSaid : Prop := Claim7.holds Tryd.pinned (.plain (OpenSpec.upto fnK12IsSpec)) fnK12IsUptoCard

/-- THE SECOND FORM's CARD OF 'laws.FnK12Pieces'. -/
def fnK12PiecesUptoCard : Claim7 := { stood := { row := fnK12PiecesUptoRow, standIns := [], harness := (true, "8738851144601d02341fca5b22585b8ad4697c9dbaffb0a41f7d431505654eeb"), looks := true }, kinds := [], alts := [], laidByText := true, laidKinds := [.data], laidTests := true, laidLooks := .later }
def FnK12PiecesUptoCardSaid : Prop := Claim7.holds Tryd.pinned (.plain (OpenSpec.upto fnK12PiecesSpec)) fnK12PiecesUptoCard

/-- THE SECOND FORM's CARD OF 'laws.FnK12Again'. -/
def fnK12AgainUptoCard : Claim7 := { stood := { row := fnK12AgainUptoRow, standIns := [], harness := (true, "8738851144601d02341fca5b22585b8ad4697c9dbaffb0a41f7d431505654eeb"), looks := true }, kinds := [], alts := [], laidByText := true, laidKinds := [.data], laidTests := true, laidLooks := .later }
def FnK12AgainUptoCardSaid : Prop := Claim7.holds Tryd.pinned (.plain (OpenSpec.upto fnK12AgainSpec)) fnK12AgainUptoCard

/-- THE SECOND FORM's CARD OF 'laws.FnK12Short'. -/
def fnK12ShortUptoCard : Claim7 := { stood := { row := fnK12ShortUptoRow, standIns := [], harness := (true, "8738851144601d02341fca5b22585b8ad4697c9dbaffb0a41f7d431505654eeb"), looks := true }, kinds := [], alts := [], laidByText := true, laidKinds := [.data], laidTests := true, laidLooks := .later }
def FnK12ShortUptoCardSaid : Prop := Claim7.holds Tryd.pinned (.plain (OpenSpec.upto fnK12ShortSpec)) fnK12ShortUptoCard

/-- THE SECOND FORM's CARD OF 'laws.FnK12Clone'. -/
def fnK12CloneUptoCard : Claim7 := { stood := { row := fnK12CloneUptoRow, standIns := [], harness := (true, "8738851144601d02341fca5b22585b8ad4697c9dbaffb0a41f7d431505654eeb"), looks := true }, kinds := [], alts := [], laidByText := true, laidKinds := [.data], laidTests := true, laidLooks := .later }
def FnK12CloneUptoCardSaid : Prop := Claim7.holds Tryd.pinned (.plain (OpenSpec.upto fnK12CloneSpec)) fnK12CloneUptoCard
end Rows
end Go.Proofs.YtbnepbdlhpkiiaaDoor
