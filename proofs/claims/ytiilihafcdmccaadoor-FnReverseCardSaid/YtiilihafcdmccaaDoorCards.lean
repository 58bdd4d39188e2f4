/-
  DERIVED. GIVEN WITH THE SEED: THE CARDS: each row of YtiilihafcdmccaaDoorRows.lean that lists a variable, with what it lists TIED to the program's text (the seventh form; the later family's looks); each row that meets fmt, with fmt's text TOLD by the authors' own Lean function (tested against real Go, not proved from fmt's source: count such statements apart). THE CARD IS WHAT COUNTS. Prove the row's statement (the work); the ties are given (YtiilihafcdmccaaDoorTie.lean); close each card by the builder's one call (the guide's Derived/Test/ToyasCard.lean, 'card_holds'). Laid BY PROGRAM, IN A SANDBOX (cutbox-door.mjs). By AI agents, Wed Nov 11 2026. No macro, syntax, notation, axiom, sorry.
-/
import Derived.Test.YtiilihafcdmccaaDoorRows
import GoSem.ClaimSeven
namespace Go.Proofs.YtiilihafcdmccaaDoor
namespace Rows

/-- THE TIED CARD OF 'laws.FnUnpackName'. -/
def fnUnpackNameCard : Claim7 := { stood := { row := fnUnpackNameRow, standIns := [], harness := (true, "e765f3aa522eba91951ef68ab83fed23f2090f331153f13dddaf9a737011503c"), looks := false }, kinds := [], alts := [], laidByText := true, laidKinds := [.sentinel, .sentinel, .sentinel], laidTests := true, laidLooks := .later }
def FnUnpackNameCardSaid : Prop := Claim7.holds Tryd.pinned (.plain (OpenSpec.ofChange fnUnpackNameSpec)) fnUnpackNameCard

/-- THE TIED CARD OF 'laws.FnFqdn'. -/
def fnFqdnCard : Claim7 := { stood := { row := fnFqdnRow, standIns := [], harness := (true, "e765f3aa522eba91951ef68ab83fed23f2090f331153f13dddaf9a737011503c"), looks := false }, kinds := [], alts := [], laidByText := true, laidKinds := [.data, .pinned], laidTests := true, laidLooks := .later }
def FnFqdnCardSaid : Prop := Claim7.holds Tryd.pinned (.plain (OpenSpec.ofChange fnFqdnSpec)) fnFqdnCard

/-- THE TIED CARD OF 'laws.FnIsName'. -/
def fnIsNameCard : Claim7 := { stood := { row := fnIsNameRow, standIns := [], harness := (true, "e765f3aa522eba91951ef68ab83fed23f2090f331153f13dddaf9a737011503c"), looks := false }, kinds := [], alts := [], laidByText := true, laidKinds := [.data, .pinned], laidTests := true, laidLooks := .later }
def FnIsNameCardSaid : Prop := Claim7.holds Tryd.pinned (.plain (OpenSpec.ofChange fnIsNameSpec)) fnIsNameCard

/-- THE TIED CARD OF 'laws.FnLabels'. -/
def fnLabelsCard : Claim7 := { stood := { row := fnLabelsRow, standIns := [], harness := (true, "e765f3aa522eba91951ef68ab83fed23f2090f331153f13dddaf9a737011503c"), looks := false }, kinds := [], alts := [], laidByText := true, laidKinds := [.data, .pinned], laidTests := true, laidLooks := .later }
def FnLabelsCardSaid : Prop := Claim7.holds Tryd.pinned (.plain (OpenSpec.ofChange fnLabelsSpec)) fnLabelsCard

/-- THE TIED CARD OF 'laws.FnCanonical'. -/
def fnCanonicalCard : Claim7 := { stood := { row := fnCanonicalRow, standIns := [], harness := (true, "e765f3aa522eba91951ef68ab83fed23f2090f331153f13dddaf9a737011503c"), looks := false }, kinds := [], alts := [], laidByText := true, laidKinds := [.data, .pinned], laidTests := true, laidLooks := .later }
def FnCanonicalCardSaid : Prop := Claim7.holds Tryd.pinned (.plain (OpenSpec.ofChange fnCanonicalSpec)) fnCanonicalCard

/-- THE TIED CARD OF 'laws.FnNoRoom'. -/
def fnNoRoomCard : Claim7 := { stood := { row := fnNoRoomRow, standIns := [], harness := (true, "e765f3aa522eba91951ef68ab83fed23f2090f331153f13dddaf9a737011503c"), looks := false }, kinds := [], alts := [], laidByText := true, laidKinds := [.data, .sentinel, .sentinel, .sentinel, .pinned], laidTests := true, laidLooks := .later }
def FnNoRoomCardSaid : Prop := Claim7.holds Tryd.pinned (.plain (OpenSpec.ofChange fnNoRoomSpec)) fnNoRoomCard

/-- THE TIED CARD OF 'laws.FnPackName'. -/
def fnPackNameCard : Claim7 := { stood := { row := fnPackNameRow, standIns := [], harness := (true, "e765f3aa522eba91951ef68ab83fed23f2090f331153f13dddaf9a737011503c"), looks := false }, kinds := [], alts := [], laidByText := true, laidKinds := [.data, .sentinel, .sentinel, .sentinel, .pinned], laidTests := true, laidLooks := .later }
def FnPackNameCardSaid : Prop := Claim7.holds Tryd.pinned (.plain (OpenSpec.ofChange fnPackNameSpec)) fnPackNameCard

/-- THE TIED CARD OF 'laws.FnTypes'. -/
def fnTypesCard : Claim7 := { stood := { row := fnTypesRow, standIns := [], harness := (true, "e765f3aa522eba91951ef68ab83fed23f2090f331153f13dddaf9a737011503c"), looks := false }, kinds := [], alts := [], laidByText := true, laidKinds := [.data, .data, .data, .mapped], laidTests := true, laidLooks := .later }
def FnTypesCardSaid : Prop := Claim7.holds Tryd.pinned (.plain (OpenSpec.ofChange fnTypesSpec)) fnTypesCard

/-- THE TIED CARD OF 'laws.FnNameComesBack'. -/
def fnNameComesBackCard : Claim7 := { stood := { row := fnNameComesBackRow, standIns := [], harness := (true, "e765f3aa522eba91951ef68ab83fed23f2090f331153f13dddaf9a737011503c"), looks := false }, kinds := [], alts := [], laidByText := true, laidKinds := [.data, .sentinel, .sentinel, .sentinel, .sentinel, .pinned], laidTests := true, laidLooks := .later }
def FnNameComesBackCardSaid : Prop := Claim7.holds Tryd.pinned (.plain (OpenSpec.ofChange fnNameComesBackSpec)) fnNameComesBackCard

/-- THE TIED CARD OF 'laws.FnHash'. -/
def fnHashCard : Claim7 := { stood := { row := fnHashRow, standIns := [], harness := (true, "e765f3aa522eba91951ef68ab83fed23f2090f331153f13dddaf9a737011503c"), looks := false }, kinds := [], alts := [], laidByText := true, laidKinds := [.data, .sentinel, .sentinel, .sentinel, .sentinel, .pinned, .pinned], laidTests := true, laidLooks := .later }
def FnHashCardSaid : Prop := Claim7.holds Tryd.pinned (.plain (OpenSpec.ofChange fnHashSpec)) fnHashCard

/-- THE TIED CARD OF 'laws.FnReverse'. -/
def fnReverseCard : Claim7 := { stood := { row := fnReverseRow, standIns := [], harness := (true, "e765f3aa522eba91951ef68ab83fed23f2090f331153f13dddaf9a737011503c"), looks := false }, kinds := [], alts := [], laidByText := true, laidKinds := [.data, .data, .data, .called, .called, .zero], laidTests := true, laidLooks := .later }
def FnReverseCardSaid : Prop := Claim7.holds Tryd.pinned (.plain (OpenSpec.ofChange fnReverseSpec)) fnReverseCard

/-- THE SECOND FORM's CARD OF 'laws.FnUnpackName'. -/
def fnUnpackNameUptoCard : Claim7 := { stood := { row := fnUnpackNameUptoRow, standIns := [], harness := (true, "e765f3aa522eba91951ef68ab83fed23f2090f331153f13dddaf9a737011503c"), looks := false }, kinds := [], alts := [], laidByText := true, laidKinds := [.sentinel, .sentinel, .sentinel], laidTests := true, laidLooks := .later }
def FnUnpackNameUptoCardSaid : Prop := Claim7.holds Tryd.pinned (.plain (OpenSpec.upto fnUnpackNameSpec)) fnUnpackNameUptoCard

/-- THE SECOND FORM's CARD OF 'laws.FnFqdn'. -/
def fnFqdnUptoCard : Claim7 := { stood := { row := fnFqdnUptoRow, standIns := [], harness := (true, "e765f3aa522eba91951ef68ab83fed23f2090f331153f13dddaf9a737011503c"), looks := false }, kinds := [], alts := [], laidByText := true, laidKinds := [.data, .pinned], laidTests := true, laidLooks := .later }
def FnFqdnUptoCardSaid : Prop := Claim7.holds Tryd.pinned (.plain (OpenSpec.upto fnFqdnSpec)) fnFqdnUptoCard

/-- THE SECOND FORM's CARD OF 'laws.FnIsName'. -/
def fnIsNameUptoCard : Claim7 := { stood := { row := fnIsNameUptoRow, standIns := [], harness := (true, "e765f3aa522eba91951ef68ab83fed23f2090f331153f13dddaf9a737011503c"), looks := false }, kinds := [], alts := [], laidByText := true, laidKinds := [.data, .pinned], laidTests := true, laidLooks := .later }
def FnIsNameUptoCardSaid : Prop := Claim7.holds Tryd.pinned (.plain (OpenSpec.upto fnIsNameSpec)) fnIsNameUptoCard

/-- THE SECOND FORM's CARD OF 'laws.FnLabels'. -/
def fnLabelsUptoCard : Claim7 := { stood := { row := fnLabelsUptoRow, standIns := [], harness := (true, "e765f3aa522eba91951ef68ab83fed23f2090f331153f13dddaf9a737011503c"), looks := false }, kinds := [], alts := [], laidByText := true, laidKinds := [.data, .pinned], laidTests := true, laidLooks := .later }
def FnLabelsUptoCardSaid : Prop := Claim7.holds Tryd.pinned (.plain (OpenSpec.upto fnLabelsSpec)) fnLabelsUptoCard

/-- THE SECOND FORM's CARD OF 'laws.FnCanonical'. -/
def fnCanonicalUptoCard : Claim7 := { stood := { row := fnCanonicalUptoRow, standIns := [], harness := (true, "e765f3aa522eba91951ef68ab83fed23f2090f331153f13dddaf9a737011503c"), looks := false }, kinds := [], alts := [], laidByText := true, laidKinds := [.data, .pinned], laidTests := true, laidLooks := .later }
def FnCanonicalUptoCardSaid : Prop := Claim7.holds Tryd.pinned (.plain (OpenSpec.upto fnCanonicalSpec)) fnCanonicalUptoCard

/-- THE SECOND FORM's CARD OF 'laws.FnNoRoom'. -/
def fnNoRoomUptoCard : Claim7 := { stood := { row := fnNoRoomUptoRow, standIns := [], harness := (true, "e765f3aa522eba91951ef68ab83fed23f2090f331153f13dddaf9a737011503c"), looks := false }, kinds := [], alts := [], laidByText := true, laidKinds := [.data, .sentinel, .sentinel, .sentinel, .pinned], laidTests := true, laidLooks := .later }
def FnNoRoomUptoCardSaid : Prop := Claim7.holds Tryd.pinned (.plain (OpenSpec.upto fnNoRoomSpec)) fnNoRoomUptoCard

/-- THE SECOND FORM's CARD OF 'laws.FnPackName'. -/
def fnPackNameUptoCard : Claim7 := { stood := { row := fnPackNameUptoRow, standIns := [], harness := (true, "e765f3aa522eba91951ef68ab83fed23f2090f331153f13dddaf9a737011503c"), looks := false }, kinds := [], alts := [], laidByText := true, laidKinds := [.data, .sentinel, .sentinel, .sentinel, .pinned], laidTests := true, laidLooks := .later }
def FnPackNameUptoCardSaid : Prop := Claim7.holds Tryd.pinned (.plain (OpenSpec.upto fnPackNameSpec)) fnPackNameUptoCard

/-- THE SECOND FORM's CARD OF 'laws.FnTypes'. -/
def fnTypesUptoCard : Claim7 := { stood := { row := fnTypesUptoRow, standIns := [], harness := (true, "e765f3aa522eba91951ef68ab83fed23f2090f331153f13dddaf9a737011503c"), looks := false }, kinds := [], alts := [], laidByText := true, laidKinds := [.data, .data, .data, .mapped], laidTests := true, laidLooks := .later }
def FnTypesUptoCardSaid : Prop := Claim7.holds Tryd.pinned (.plain (OpenSpec.upto fnTypesSpec)) fnTypesUptoCard

/-- THE SECOND FORM's CARD OF 'laws.FnNameComesBack'. -/
def fnNameComesBackUptoCard : Claim7 := { stood := { row := fnNameComesBackUptoRow, standIns := [], harness := (true, "e765f3aa522eba91951ef68ab83fed23f2090f331153f13dddaf9a737011503c"), looks := false }, kinds := [], alts := [], laidByText := true, laidKinds := [.data, .sentinel, .sentinel, .sentinel, .sentinel, .pinned], laidTests := true, laidLooks := .later }
def FnNameComesBackUptoCardSaid : Prop := Claim7.holds Tryd.pinned (.plain (OpenSpec.upto fnNameComesBackSpec)) fnNameComesBackUptoCard

/-- THE SECOND FORM's CARD OF 'laws.FnHash'. -/
def fnHashUptoCard : Claim7 := { stood := { row := fnHashUptoRow, standIns := [], harness := (true, "e765f3aa522eba91951ef68ab83fed23f2090f331153f13dddaf9a737011503c"), looks := false }, kinds := [], alts := [], laidByText := true, laidKinds := [.data, .sentinel, .sentinel, .sentinel, .sentinel, .pinned, .pinned], laidTests := true, laidLooks := .later }
def FnHashUptoCardSaid : Prop := Claim7.holds Tryd.pinned (.plain (OpenSpec.upto fnHashSpec)) fnHashUptoCard

/-- THE SECOND FORM's CARD OF 'laws.FnReverse'. -/
def fnReverseUptoCard : Claim7 := { stood := { row := fnReverseUptoRow, standIns := [], harness := (true, "e765f3aa522eba91951ef68ab83fed23f2090f331153f13dddaf9a737011503c"), looks := false }, kinds := [], alts := [], laidByText := true, laidKinds := [.data, .data, .data, .called, .called, .zero], laidTests := true, laidLooks := .later }
def FnReverseUptoCardSaid : Prop := Claim7.holds Tryd.pinned (.plain (OpenSpec.upto fnReverseSpec)) fnReverseUptoCard
end Rows
end Go.Proofs.YtiilihafcdmccaaDoor
