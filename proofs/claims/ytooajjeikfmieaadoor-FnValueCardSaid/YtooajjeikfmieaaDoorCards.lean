/-
  DERIVED. GIVEN WITH THE SEED: THE CARDS: each row of YtooajjeikfmieaaDoorRows.lean that lists a variable, with what it lists TIED to the program's text (the seventh form; the later family's looks); each row that meets fmt, with fmt's text TOLD by the authors' own Lean function (tested against real Go, not proved from fmt's source: count such statements apart). THE CARD IS WHAT COUNTS. Prove the row's statement (the work); the ties are given (YtooajjeikfmieaaDoorTie.lean); close each card by the builder's one call (the guide's Derived/Test/ToyasCard.lean, 'card_holds'). Laid BY PROGRAM, IN A SANDBOX (cutbox-door.mjs). By AI agents, Wed Nov 11 2026. No macro, syntax, notation, axiom, sorry.
-/
import Derived.Test.YtooajjeikfmieaaDoorRows
import GoSem.ClaimSeven
namespace Go.Proofs.YtooajjeikfmieaaDoor
namespace Rows

/-- THE TIED CARD OF 'laws.FnValue'. -/
def fnValueCard : Claim7 := { stood := { row := fnValueRow, standIns := [], harness := (true, "1b22937ec0322ebbc94b2a272da214f7d7f1a86b312e468bb902c55002d51e30"), looks := false }, kinds := [], alts := [], laidByText := true, laidKinds := [.data, .pinned, .pinned], laidTests := true, laidLooks := .later }
def FnValueCardSaid : Prop := Claim7.holds Tryd.pinned (.plain (OpenSpec.ofChange fnValueSpec)) fnValueCard

/-- THE TIED CARD OF 'laws.FnWithin'. -/
def fnWithinCard : Claim7 := { stood := { row := fnWithinRow, standIns := [], harness := (true, "1b22937ec0322ebbc94b2a272da214f7d7f1a86b312e468bb902c55002d51e30"), looks := false }, kinds := [], alts := [], laidByText := true, laidKinds := [.data, .pinned, .pinned], laidTests := true, laidLooks := .later }
def FnWithinCardSaid : Prop := Claim7.holds Tryd.pinned (.plain (OpenSpec.ofChange fnWithinSpec)) fnWithinCard

/-- THE TIED CARD OF 'laws.FnAppend'. -/
def fnAppendCard : Claim7 := { stood := { row := fnAppendRow, standIns := [], harness := (true, "1b22937ec0322ebbc94b2a272da214f7d7f1a86b312e468bb902c55002d51e30"), looks := false }, kinds := [], alts := [], laidByText := true, laidKinds := [.data, .pinned, .pinned], laidTests := true, laidLooks := .later }
def FnAppendCardSaid : Prop := Claim7.holds Tryd.pinned (.plain (OpenSpec.ofChange fnAppendSpec)) fnAppendCard

/-- THE TIED CARD OF 'laws.FnExactDedup'. -/
def fnExactDedupCard : Claim7 := { stood := { row := fnExactDedupRow, standIns := [], harness := (true, "1b22937ec0322ebbc94b2a272da214f7d7f1a86b312e468bb902c55002d51e30"), looks := false }, kinds := [], alts := [], laidByText := true, laidKinds := [.data, .pinned, .pinned], laidTests := true, laidLooks := .later }
def FnExactDedupCardSaid : Prop := Claim7.holds Tryd.pinned (.plain (OpenSpec.ofChange fnExactDedupSpec)) fnExactDedupCard

/-- THE TIED CARD OF 'laws.FnTwice'. -/
def fnTwiceCard : Claim7 := { stood := { row := fnTwiceRow, standIns := [], harness := (true, "1b22937ec0322ebbc94b2a272da214f7d7f1a86b312e468bb902c55002d51e30"), looks := false }, kinds := [], alts := [], laidByText := true, laidKinds := [.data, .pinned, .pinned], laidTests := true, laidLooks := .later }
def FnTwiceCardSaid : Prop := Claim7.holds Tryd.pinned (.plain (OpenSpec.ofChange fnTwiceSpec)) fnTwiceCard

/-- THE SECOND FORM's CARD OF 'laws.FnValue'. -/
def fnValueUptoCard : Claim7 := { stood := { row := fnValueUptoRow, standIns := [], harness := (true, "1b22937ec0322ebbc94b2a272da214f7d7f1a86b312e468bb902c55002d51e30"), looks := false }, kinds := [], alts := [], laidByText := true, laidKinds := [.data, .pinned, .pinned], laidTests := true, laidLooks := .later }
def FnValueUptoCardSaid : Prop := Claim7.holds Tryd.pinned (.plain (OpenSpec.upto fnValueSpec)) fnValueUptoCard

/-- THE SECOND FORM's CARD OF 'laws.FnWithin'. -/
def fnWithinUptoCard : Claim7 := { stood := { row := fnWithinUptoRow, standIns := [], harness := (true, "1b22937ec0322ebbc94b2a272da214f7d7f1a86b312e468bb902c55002d51e30"), looks := false }, kinds := [], alts := [], laidByText := true, laidKinds := [.data, .pinned, .pinned], laidTests := true, laidLooks := .later }
def FnWithinUptoCardSaid : Prop := Claim7.holds Tryd.pinned (.plain (OpenSpec.upto fnWithinSpec)) fnWithinUptoCard

/-- THE SECOND FORM's CARD OF 'laws.FnAppend'. -/
def fnAppendUptoCard : Claim7 := { stood := { row := fnAppendUptoRow, standIns := [], harness := (true, "1b22937ec0322ebbc94b2a272da214f7d7f1a86b312e468bb902c55002d51e30"), looks := false }, kinds := [], alts := [], laidByText := true, laidKinds := [.data, .pinned, .pinned], laidTests := true, laidLooks := .later }
def FnAppendUptoCardSaid : Prop := Claim7.holds Tryd.pinned (.plain (OpenSpec.upto fnAppendSpec)) fnAppendUptoCard

/-- THE SECOND FORM's CARD OF 'laws.FnExactDedup'. -/
def fnExactDedupUptoCard : Claim7 := { stood := { row := fnExactDedupUptoRow, standIns := [], harness := (true, "1b22937ec0322ebbc94b2a272da214f7d7f1a86b312e468bb902c55002d51e30"), looks := false }, kinds := [], alts := [], laidByText := true, laidKinds := [.data, .pinned, .pinned], laidTests := true, laidLooks := .later }
def FnExactDedupUptoCardSaid : Prop := Claim7.holds Tryd.pinned (.plain (OpenSpec.upto fnExactDedupSpec)) fnExactDedupUptoCard

/-- THE SECOND FORM's CARD OF 'laws.FnTwice'. -/
def fnTwiceUptoCard : Claim7 := { stood := { row := fnTwiceUptoRow, standIns := [], harness := (true, "1b22937ec0322ebbc94b2a272da214f7d7f1a86b312e468bb902c55002d51e30"), looks := false }, kinds := [], alts := [], laidByText := true, laidKinds := [.data, .pinned, .pinned], laidTests := true, laidLooks := .later }
def FnTwiceUptoCardSaid : Prop := Claim7.holds Tryd.pinned (.plain (OpenSpec.upto fnTwiceSpec)) fnTwiceUptoCard
end Rows
end Go.Proofs.YtooajjeikfmieaaDoor
