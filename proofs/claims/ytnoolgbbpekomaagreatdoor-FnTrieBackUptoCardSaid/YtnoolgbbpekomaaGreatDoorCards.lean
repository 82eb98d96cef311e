/-
  DERIVED. GIVEN WITH THE SEED: THE CARDS: each row of YtnoolgbbpekomaaGreatDoorRows.lean that lists a variable, with what it lists TIED to the program's text (the seventh form; the later family's looks); each row that meets fmt, with fmt's text TOLD by the authors' own Lean function (tested against real Go, not proved from fmt's source: count such statements apart). THE CARD IS WHAT COUNTS. Prove the row's statement (the work); the ties are given (YtnoolgbbpekomaaGreatDoorTie.lean); close each card by the builder's one call (the guide's Derived/Test/ToyasCard.lean, 'card_holds'). Laid BY PROGRAM, IN A SANDBOX (cutbox-door.mjs). By AI agents, Wed Nov 11 2026. No macro, syntax, notation, axiom, sorry.
-/
import Derived.Test.YtnoolgbbpekomaaGreatDoorRows
import GoSem.ClaimSeven
namespace Go.Proofs.YtnoolgbbpekomaaGreatDoor
namespace Rows

/-- THE TIED CARD OF 'laws.FnHoles'. -/
def fnHolesCard : Claim7 := { stood := { row := fnHolesRow, standIns := [], harness := (true, "9322ade68d7ae5f908ba4b2206587347b115f0ca7366fbb39396d38ae95a308f"), looks := true }, kinds := [], alts := [], laidByText := true, laidKinds := [.data, .data, .data, .data, .sentinel, .sentinel, .listed, .data, .pinned], laidTests := true, laidLooks := .later }
def FnHolesCardSaid : Prop := Claim7.holds Tryz.pinned (.plain (OpenSpec.ofChange fnHolesSpec)) fnHolesCard

/-- THE TIED CARD OF 'laws.FnHolesBad'. -/
def fnHolesBadCard : Claim7 := { stood := { row := fnHolesBadRow, standIns := [], harness := (true, "9322ade68d7ae5f908ba4b2206587347b115f0ca7366fbb39396d38ae95a308f"), looks := true }, kinds := [], alts := [], laidByText := true, laidKinds := [.data, .data, .data, .data, .sentinel, .sentinel, .listed, .data, .pinned], laidTests := true, laidLooks := .later }
def FnHolesBadCardSaid : Prop := Claim7.holds Tryz.pinned (.plain (OpenSpec.ofChange fnHolesBadSpec)) fnHolesBadCard

/-- THE TIED CARD OF 'laws.FnTrieAll'. -/
def fnTrieAllCard : Claim7 := { stood := { row := fnTrieAllRow, standIns := [], harness := (true, "9322ade68d7ae5f908ba4b2206587347b115f0ca7366fbb39396d38ae95a308f"), looks := true }, kinds := [], alts := [], laidByText := true, laidKinds := [.data, .data, .data, .data, .sentinel, .sentinel, .listed, .data, .pinned], laidTests := true, laidLooks := .later }
def FnTrieAllCardSaid : Prop := Claim7.holds Tryz.pinned (.plain (OpenSpec.ofChange fnTrieAllSpec)) fnTrieAllCard

/-- THE TIED CARD OF 'laws.FnTrieBack'. -/
def fnTrieBackCard : Claim7 := { stood := { row := fnTrieBackRow, standIns := [], harness := (true, "9322ade68d7ae5f908ba4b2206587347b115f0ca7366fbb39396d38ae95a308f"), looks := true }, kinds := [], alts := [], laidByText := true, laidKinds := [.data, .data, .data, .data, .sentinel, .sentinel, .listed, .data, .pinned], laidTests := true, laidLooks := .later }
def FnTrieBackCardSaid : Prop := Claim7.holds Tryz.pinned (.plain (OpenSpec.ofChange fnTrieBackSpec)) fnTrieBackCard

/-- THE TIED CARD OF 'laws.FnTrieFound'. -/
def fnTrieFoundCard : Claim7 := { stood := { row := fnTrieFoundRow, standIns := [], harness := (true, "9322ade68d7ae5f908ba4b2206587347b115f0ca7366fbb39396d38ae95a308f"), looks := true }, kinds := [], alts := [], laidByText := true, laidKinds := [.data, .data, .data, .data, .sentinel, .sentinel, .listed, .data, .pinned], laidTests := true, laidLooks := .later }
def FnTrieFoundCardSaid : Prop := Claim7.holds Tryz.pinned (.plain (OpenSpec.ofChange fnTrieFoundSpec)) fnTrieFoundCard

/-- THE TIED CARD OF 'laws.FnTrieHole'. -/
def fnTrieHoleCard : Claim7 := { stood := { row := fnTrieHoleRow, standIns := [], harness := (true, "9322ade68d7ae5f908ba4b2206587347b115f0ca7366fbb39396d38ae95a308f"), looks := true }, kinds := [], alts := [], laidByText := true, laidKinds := [.data, .data, .data, .data, .sentinel, .sentinel, .listed, .data, .pinned], laidTests := true, laidLooks := .later }
def FnTrieHoleCardSaid : Prop := Claim7.holds Tryz.pinned (.plain (OpenSpec.ofChange fnTrieHoleSpec)) fnTrieHoleCard

/-- THE TIED CARD OF 'laws.FnTrieLonger'. -/
def fnTrieLongerCard : Claim7 := { stood := { row := fnTrieLongerRow, standIns := [], harness := (true, "9322ade68d7ae5f908ba4b2206587347b115f0ca7366fbb39396d38ae95a308f"), looks := true }, kinds := [], alts := [], laidByText := true, laidKinds := [.data, .data, .data, .data, .sentinel, .sentinel, .listed, .data, .pinned], laidTests := true, laidLooks := .later }
def FnTrieLongerCardSaid : Prop := Claim7.holds Tryz.pinned (.plain (OpenSpec.ofChange fnTrieLongerSpec)) fnTrieLongerCard

/-- THE TIED CARD OF 'laws.FnTrieNodes'. -/
def fnTrieNodesCard : Claim7 := { stood := { row := fnTrieNodesRow, standIns := [], harness := (true, "9322ade68d7ae5f908ba4b2206587347b115f0ca7366fbb39396d38ae95a308f"), looks := true }, kinds := [], alts := [], laidByText := true, laidKinds := [.data, .data, .data, .data, .sentinel, .sentinel, .listed, .data, .pinned], laidTests := true, laidLooks := .later }
def FnTrieNodesCardSaid : Prop := Claim7.holds Tryz.pinned (.plain (OpenSpec.ofChange fnTrieNodesSpec)) fnTrieNodesCard

/-- THE TIED CARD OF 'laws.FnTriePlain'. -/
def fnTriePlainCard : Claim7 := { stood := { row := fnTriePlainRow, standIns := [], harness := (true, "9322ade68d7ae5f908ba4b2206587347b115f0ca7366fbb39396d38ae95a308f"), looks := true }, kinds := [], alts := [], laidByText := true, laidKinds := [.data, .data, .data, .data, .sentinel, .sentinel, .listed, .data, .pinned], laidTests := true, laidLooks := .later }
def FnTriePlainCardSaid : Prop := Claim7.holds Tryz.pinned (.plain (OpenSpec.ofChange fnTriePlainSpec)) fnTriePlainCard

/-- THE TIED CARD OF 'laws.FnTrieRefused'. -/
def fnTrieRefusedCard : Claim7 := { stood := { row := fnTrieRefusedRow, standIns := [], harness := (true, "9322ade68d7ae5f908ba4b2206587347b115f0ca7366fbb39396d38ae95a308f"), looks := true }, kinds := [], alts := [], laidByText := true, laidKinds := [.data, .data, .data, .data, .sentinel, .sentinel, .listed, .data, .pinned], laidTests := true, laidLooks := .later }
def FnTrieRefusedCardSaid : Prop := Claim7.holds Tryz.pinned (.plain (OpenSpec.ofChange fnTrieRefusedSpec)) fnTrieRefusedCard

/-- THE TIED CARD OF 'laws.FnTrieTurned'. -/
def fnTrieTurnedCard : Claim7 := { stood := { row := fnTrieTurnedRow, standIns := [], harness := (true, "9322ade68d7ae5f908ba4b2206587347b115f0ca7366fbb39396d38ae95a308f"), looks := true }, kinds := [], alts := [], laidByText := true, laidKinds := [.data, .data, .data, .data, .sentinel, .sentinel, .listed, .data, .pinned], laidTests := true, laidLooks := .later }
def FnTrieTurnedCardSaid : Prop := Claim7.holds Tryz.pinned (.plain (OpenSpec.ofChange fnTrieTurnedSpec)) fnTrieTurnedCard

/-- THE TIED CARD OF 'laws.FnTrieTwice'. -/
def fnTrieTwiceCard : Claim7 := { stood := { row := fnTrieTwiceRow, standIns := [], harness := (true, "9322ade68d7ae5f908ba4b2206587347b115f0ca7366fbb39396d38ae95a308f"), looks := true }, kinds := [], alts := [], laidByText := true, laidKinds := [.data, .data, .data, .data, .sentinel, .sentinel, .listed, .data, .pinned], laidTests := true, laidLooks := .later }
def FnTrieTwiceCardSaid : Prop := Claim7.holds Tryz.pinned (.plain (OpenSpec.ofChange fnTrieTwiceSpec)) fnTrieTwiceCard

/-- THE SECOND FORM's CARD OF 'laws.FnHoles'. -/
def fnHolesUptoCard : Claim7 := { stood := { row := fnHolesUptoRow, standIns := [], harness := (true, "9322ade68d7ae5f908ba4b2206587347b115f0ca7366fbb39396d38ae95a308f"), looks := true }, kinds := [], alts := [], laidByText := true, laidKinds := [.data, .data, .data, .data, .sentinel, .sentinel, .listed, .data, .pinned], laidTests := true, laidLooks := .later }
def FnHolesUptoCardSaid : Prop := Claim7.holds Tryz.pinned (.plain (OpenSpec.upto fnHolesSpec)) fnHolesUptoCard

/-- THE SECOND FORM's CARD OF 'laws.FnHolesBad'. -/
def fnHolesBadUptoCard : Claim7 := { stood := { row := fnHolesBadUptoRow, standIns := [], harness := (true, "9322ade68d7ae5f908ba4b2206587347b115f0ca7366fbb39396d38ae95a308f"), looks := true }, kinds := [], alts := [], laidByText := true, laidKinds := [.data, .data, .data, .data, .sentinel, .sentinel, .listed, .data, .pinned], laidTests := true, laidLooks := .later }
def FnHolesBadUptoCardSaid : Prop := Claim7.holds Tryz.pinned (.plain (OpenSpec.upto fnHolesBadSpec)) fnHolesBadUptoCard

/-- THE SECOND FORM's CARD OF 'laws.FnTrieAll'. -/
def fnTrieAllUptoCard : Claim7 := { stood := { row := fnTrieAllUptoRow, standIns := [], harness := (true, "9322ade68d7ae5f908ba4b2206587347b115f0ca7366fbb39396d38ae95a308f"), looks := true }, kinds := [], alts := [], laidByText := true, laidKinds := [.data, .data, .data, .data, .sentinel, .sentinel, .listed, .data, .pinned], laidTests := true, laidLooks := .later }
def FnTrieAllUptoCardSaid : Prop := Claim7.holds Tryz.pinned (.plain (OpenSpec.upto fnTrieAllSpec)) fnTrieAllUptoCard

/-- THE SECOND FORM's CARD OF 'laws.FnTrieBack'. -/
def fnTrieBackUptoCard : Claim7 := { stood := { row := fnTrieBackUptoRow, standIns := [], harness := (true, "9322ade68d7ae5f908ba4b2206587347b115f0ca7366fbb39396d38ae95a308f"), looks := true }, kinds := [], alts := [], laidByText := true, laidKinds := [.data, .data, .data, .data, .sentinel, .sentinel, .listed, .data, .pinned], laidTests := true, laidLooks := .later }
def FnTrieBackUptoCardSaid : Prop := Claim7.holds Tryz.pinned (.plain (OpenSpec.upto fnTrieBackSpec)) fnTrieBackUptoCard

/-- THE SECOND FORM's CARD OF 'laws.FnTrieFound'. -/
def fnTrieFoundUptoCard : Claim7 := { stood := { row := fnTrieFoundUptoRow, standIns := [], harness := (true, "9322ade68d7ae5f908ba4b2206587347b115f0ca7366fbb39396d38ae95a308f"), looks := true }, kinds := [], alts := [], laidByText := true, laidKinds := [.data, .data, .data, .data, .sentinel, .sentinel, .listed, .data, .pinned], laidTests := true, laidLooks := .later }
def FnTrieFoundUptoCardSaid : Prop := Claim7.holds Tryz.pinned (.plain (OpenSpec.upto fnTrieFoundSpec)) fnTrieFoundUptoCard

/-- THE SECOND FORM's CARD OF 'laws.FnTrieHole'. -/
def fnTrieHoleUptoCard : Claim7 := { stood := { row := fnTrieHoleUptoRow, standIns := [], harness := (true, "9322ade68d7ae5f908ba4b2206587347b115f0ca7366fbb39396d38ae95a308f"), looks := true }, kinds := [], alts := [], laidByText := true, laidKinds := [.data, .data, .data, .data, .sentinel, .sentinel, .listed, .data, .pinned], laidTests := true, laidLooks := .later }
def FnTrieHoleUptoCardSaid : Prop := Claim7.holds Tryz.pinned (.plain (OpenSpec.upto fnTrieHoleSpec)) fnTrieHoleUptoCard

/-- THE SECOND FORM's CARD OF 'laws.FnTrieLonger'. -/
def fnTrieLongerUptoCard : Claim7 := { stood := { row := fnTrieLongerUptoRow, standIns := [], harness := (true, "9322ade68d7ae5f908ba4b2206587347b115f0ca7366fbb39396d38ae95a308f"), looks := true }, kinds := [], alts := [], laidByText := true, laidKinds := [.data, .data, .data, .data, .sentinel, .sentinel, .listed, .data, .pinned], laidTests := true, laidLooks := .later }
def FnTrieLongerUptoCardSaid : Prop := Claim7.holds Tryz.pinned (.plain (OpenSpec.upto fnTrieLongerSpec)) fnTrieLongerUptoCard

/-- THE SECOND FORM's CARD OF 'laws.FnTrieNodes'. -/
def fnTrieNodesUptoCard : Claim7 := { stood := { row := fnTrieNodesUptoRow, standIns := [], harness := (true, "9322ade68d7ae5f908ba4b2206587347b115f0ca7366fbb39396d38ae95a308f"), looks := true }, kinds := [], alts := [], laidByText := true, laidKinds := [.data, .data, .data, .data, .sentinel, .sentinel, .listed, .data, .pinned], laidTests := true, laidLooks := .later }
def FnTrieNodesUptoCardSaid : Prop := Claim7.holds Tryz.pinned (.plain (OpenSpec.upto fnTrieNodesSpec)) fnTrieNodesUptoCard

/-- THE SECOND FORM's CARD OF 'laws.FnTriePlain'. -/
def fnTriePlainUptoCard : Claim7 := { stood := { row := fnTriePlainUptoRow, standIns := [], harness := (true, "9322ade68d7ae5f908ba4b2206587347b115f0ca7366fbb39396d38ae95a308f"), looks := true }, kinds := [], alts := [], laidByText := true, laidKinds := [.data, .data, .data, .data, .sentinel, .sentinel, .listed, .data, .pinned], laidTests := true, laidLooks := .later }
def FnTriePlainUptoCardSaid : Prop := Claim7.holds Tryz.pinned (.plain (OpenSpec.upto fnTriePlainSpec)) fnTriePlainUptoCard

/-- THE SECOND FORM's CARD OF 'laws.FnTrieRefused'. -/
def fnTrieRefusedUptoCard : Claim7 := { stood := { row := fnTrieRefusedUptoRow, standIns := [], harness := (true, "9322ade68d7ae5f908ba4b2206587347b115f0ca7366fbb39396d38ae95a308f"), looks := true }, kinds := [], alts := [], laidByText := true, laidKinds := [.data, .data, .data, .data, .sentinel, .sentinel, .listed, .data, .pinned], laidTests := true, laidLooks := .later }
def FnTrieRefusedUptoCardSaid : Prop := Claim7.holds Tryz.pinned (.plain (OpenSpec.upto fnTrieRefusedSpec)) fnTrieRefusedUptoCard

/-- THE SECOND FORM's CARD OF 'laws.FnTrieTurned'. -/
def fnTrieTurnedUptoCard : Claim7 := { stood := { row := fnTrieTurnedUptoRow, standIns := [], harness := (true, "9322ade68d7ae5f908ba4b2206587347b115f0ca7366fbb39396d38ae95a308f"), looks := true }, kinds := [], alts := [], laidByText := true, laidKinds := [.data, .data, .data, .data, .sentinel, .sentinel, .listed, .data, .pinned], laidTests := true, laidLooks := .later }
def FnTrieTurnedUptoCardSaid : Prop := Claim7.holds Tryz.pinned (.plain (OpenSpec.upto fnTrieTurnedSpec)) fnTrieTurnedUptoCard

/-- THE SECOND FORM's CARD OF 'laws.FnTrieTwice'. -/
def fnTrieTwiceUptoCard : Claim7 := { stood := { row := fnTrieTwiceUptoRow, standIns := [], harness := (true, "9322ade68d7ae5f908ba4b2206587347b115f0ca7366fbb39396d38ae95a308f"), looks := true }, kinds := [], alts := [], laidByText := true, laidKinds := [.data, .data, .data, .data, .sentinel, .sentinel, .listed, .data, .pinned], laidTests := true, laidLooks := .later }
def FnTrieTwiceUptoCardSaid : Prop := Claim7.holds Tryz.pinned (.plain (OpenSpec.upto fnTrieTwiceSpec)) fnTrieTwiceUptoCard
end Rows
end Go.Proofs.YtnoolgbbpekomaaGreatDoor
