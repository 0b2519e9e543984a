/-
  No cell of these rows narrows 'for every input' (looked for: loops, veiled, ifaces, maps, wideKeys, modest, calm, conditions, laid).
  DERIVED. THE GIVEN ROWS OF THIS SEAT. 2 by the template 'for every input the law returns true; each argument reads behind the call as it read before'; 0 by the template 'total and deterministic' (their statements: Qxb6604128aModsTotals.lean).
  GIVEN WITH THE SEED: the statements are not yours to turn. If you find one false, say at which input.
  Laid BY PROGRAM, IN A SANDBOX (cutbox-rows.mjs): the forced cells as the released guide's own fill.sh prints them over the translation 137513bd0a2bf9fa… (all of the seat's roots in one cut). By AI agents, Wed Nov 11 2026. No macro, syntax, notation, axiom, sorry.
-/
import Derived.Test.Qxb6604128aModsChecked
import GoSem.Claim
import GoSem.ClaimJoined
import GoSem.ClaimMapViews
import Derived.JoinedTies
import Derived.KernelRfl
namespace Go.Proofs.Qxb6604128aMods
/- THE CELL 'sum', in the pinned program and in every row, IS THE sha256 OF THE DUMP (.gsa) THAT Qxb6604128aModsProg.lean LOADS. Nothing in Lean hashes anything: it is a label: what it is worth is what the hold of that sum in a sandbox is worth. -/
noncomputable def Trym.pinned : Pinned := { name := "qxb6604128amods", sum := "137513bd0a2bf9fa3fc67928f5f31e6d7b9c1873d87ed7dafcbbd93223f9372b", checked := Trym.checked }
namespace Rows
def none {H : Type} : Left H := { results := [], args := [] }

/-- 'zzlaws_internal_ledger_b1.FnCutLinesMatchesModel': WHATEVER THE INPUT: true; the input reads as it did. -/
def fnCutLinesMatchesModelSpec : ChangeSpec := { name := "fnCutLinesMatchesModel", fn := fun _ => fun
  | [d1, d2] => { results := [.lit (.bool true)], args := [d1, d2] }
  | _ => none }
def fnCutLinesMatchesModelRow : OpenClaim := { program := "qxb6604128amods", sum := "137513bd0a2bf9fa3fc67928f5f31e6d7b9c1873d87ed7dafcbbd93223f9372b", func := "example.com/policy-ledger/policy-ledger/zzlaws_internal_ledger_b1.FnCutLinesMatchesModel", spec := "fnCutLinesMatchesModel", inPlace := ["internal/bytealg.IndexByte"], make := .lifted ["publicsums"], apart := false }
def FnCutLinesMatchesModelSaid : Prop := fnCutLinesMatchesModelRow.holds Trym.pinned (OpenSpec.ofChange fnCutLinesMatchesModelSpec)

/-- ITS FALSE NEIGHBOUR: 'it returns false'. Refute it at one input. -/
def fnCutLinesMatchesModelWrong : ChangeSpec := { name := "fnCutLinesMatchesModel", fn := fun _ => fun
  | [d1, d2] => { results := [.lit (.bool false)], args := [d1, d2] }
  | _ => none }
def FnCutLinesMatchesModelWrongFalsely : Prop := fnCutLinesMatchesModelRow.holds Trym.pinned (OpenSpec.ofChange fnCutLinesMatchesModelWrong)

/-- 'zzlaws_internal_ledger_b1.FnCutLinesBatchesGiveEveryLineOnce': WHATEVER THE INPUT: true; the input reads as it did. -/
def fnCutLinesBatchesGiveEveryLineOnceSpec : ChangeSpec := { name := "fnCutLinesBatchesGiveEveryLineOnce", fn := fun _ => fun
  | [d] => { results := [.lit (.bool true)], args := [d] }
  | _ => none }
def fnCutLinesBatchesGiveEveryLineOnceRow : OpenClaim := { program := "qxb6604128amods", sum := "137513bd0a2bf9fa3fc67928f5f31e6d7b9c1873d87ed7dafcbbd93223f9372b", func := "example.com/policy-ledger/policy-ledger/zzlaws_internal_ledger_b1.FnCutLinesBatchesGiveEveryLineOnce", spec := "fnCutLinesBatchesGiveEveryLineOnce", inPlace := ["internal/bytealg.IndexByte"], make := .lifted ["publicsums"], apart := false }
def FnCutLinesBatchesGiveEveryLineOnceSaid : Prop := fnCutLinesBatchesGiveEveryLineOnceRow.holds Trym.pinned (OpenSpec.ofChange fnCutLinesBatchesGiveEveryLineOnceSpec)

/-- ITS FALSE NEIGHBOUR: 'it returns false'. Refute it at one input. -/
def fnCutLinesBatchesGiveEveryLineOnceWrong : ChangeSpec := { name := "fnCutLinesBatchesGiveEveryLineOnce", fn := fun _ => fun
  | [d] => { results := [.lit (.bool false)], args := [d] }
  | _ => none }
def FnCutLinesBatchesGiveEveryLineOnceWrongFalsely : Prop := fnCutLinesBatchesGiveEveryLineOnceRow.holds Trym.pinned (OpenSpec.ofChange fnCutLinesBatchesGiveEveryLineOnceWrong)

end Rows
end Go.Proofs.Qxb6604128aMods
