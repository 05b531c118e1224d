/-
  DERIVED. GIVEN WITH THE SEED: THE CARDS: each row of Qxb6615671aFmtRows.lean that lists a variable, with what it lists TIED to the program's text (the seventh form; the later family's looks); each row that meets fmt, with fmt's text TOLD by the authors' own Lean function (tested against real Go, not proved from fmt's source: count such statements apart). THE CARD IS WHAT COUNTS. Prove the row's statement (the work); the ties are given (Qxb6615671aFmtTie.lean); close each card by the builder's one call (the guide's Derived/Test/ToyasCard.lean, 'card_holds'). Laid BY PROGRAM, IN A SANDBOX (cutbox-door.mjs). By AI agents, Wed Nov 11 2026. No macro, syntax, notation, axiom, sorry.
-/
import Derived.Test.Qxb6615671aFmtRows
import GoSem.ClaimSeven
namespace Go.Proofs.Qxb6615671aFmt
namespace Rows

/-- THE TOLD AND TIED CARD OF 'zzlaws_root_b1.FnCounterPolicyLiveExactly'. -/
def fnCounterPolicyLiveExactlyCard : Claim7 := { stood := { row := fnCounterPolicyLiveExactlyRow, standIns := [], harness := (true, "712a9997f71322de45988be9fbeba767c44ccf650ca14616ab7cce10dd48b3e8"), looks := true }, told := true, laidByText := true, laidKinds := [.data, .data, .data, .data, .sentinel, .sentinel, .pinned, .pinned, .pinned, .pinned, .pinned, .pinned], laidTests := true, laidLooks := .later, goes := false }
def FnCounterPolicyLiveExactlyToldSaid : Prop := Claim7.holds Tryf.pinned (.plain (OpenSpec.ofChange fnCounterPolicyLiveExactlySpec)) fnCounterPolicyLiveExactlyCard
/-- ITS FALSE NEIGHBOUR. Refute it at one input. -/
def FnCounterPolicyLiveExactlyToldWrongFalsely : Prop := Claim7.holds Tryf.pinned (.plain (OpenSpec.ofChange fnCounterPolicyLiveExactlyWrong)) fnCounterPolicyLiveExactlyCard

/-- THE TOLD AND TIED CARD OF 'zzlaws_root_b1.FnCounterPolicyLockedRefusesEveryID'. -/
def fnCounterPolicyLockedRefusesEveryIDCard : Claim7 := { stood := { row := fnCounterPolicyLockedRefusesEveryIDRow, standIns := [], harness := (true, "712a9997f71322de45988be9fbeba767c44ccf650ca14616ab7cce10dd48b3e8"), looks := true }, told := true, laidByText := true, laidKinds := [.data, .data, .data, .data, .sentinel, .sentinel, .pinned, .pinned, .pinned, .pinned, .pinned, .pinned], laidTests := true, laidLooks := .later, goes := false }
def FnCounterPolicyLockedRefusesEveryIDToldSaid : Prop := Claim7.holds Tryf.pinned (.plain (OpenSpec.ofChange fnCounterPolicyLockedRefusesEveryIDSpec)) fnCounterPolicyLockedRefusesEveryIDCard
/-- ITS FALSE NEIGHBOUR. Refute it at one input. -/
def FnCounterPolicyLockedRefusesEveryIDToldWrongFalsely : Prop := Claim7.holds Tryf.pinned (.plain (OpenSpec.ofChange fnCounterPolicyLockedRefusesEveryIDWrong)) fnCounterPolicyLockedRefusesEveryIDCard
end Rows
end Go.Proofs.Qxb6615671aFmt
