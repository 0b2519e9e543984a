import Derived.Test.Qxb6601977aModsProg
import Derived.Test.Qxb6601977aModsNum
import Derived.WalkKit
import Derived.Deep.QuietTactic
import Derived.BigQuiet
import Derived.WalkSpells
import Derived.WalkLawsBesides
import Derived.Lib.Bytealg
namespace Go.Proofs.Qxb6601977aMods
open Go.RowKit

/-- the value of a base58 digit, by its byte -/
def b58v (c : Int) : Int :=
  if 49 ≤ c ∧ c ≤ 57 then c - 49
  else if 65 ≤ c ∧ c ≤ 72 then c - 65 + 9
  else if 74 ≤ c ∧ c ≤ 78 then c - 74 + 17
  else if 80 ≤ c ∧ c ≤ 90 then c - 80 + 22
  else if 97 ≤ c ∧ c ≤ 107 then c - 97 + 33
  else if 109 ≤ c ∧ c ≤ 122 then c - 109 + 44
  else -1

theorem ret_int {k : IntKind} {a b : Int} (h : a = b) : Ending.returned (.int k a) = .returned (.int k b) := by rw [h]

set_option maxHeartbeats 1000000 in
theorem b58Value_any (c : Int) (w : World) (h0 : 0 ≤ c) (h1 : c ≤ 255) :
    Calls Trym.prog 29 #[.int .u8 c] w fun e w' => e = .returned (.int .i64 (b58v c)) ∧ w' = w := by
  rcases (show (49 ≤ c ∧ c ≤ 57) ∨ (65 ≤ c ∧ c ≤ 72) ∨ (74 ≤ c ∧ c ≤ 78) ∨ (80 ≤ c ∧ c ≤ 90) ∨ (97 ≤ c ∧ c ≤ 107) ∨ (109 ≤ c ∧ c ≤ 122) ∨
      (c < 49 ∨ (57 < c ∧ c < 65) ∨ c = 73 ∨ c = 79 ∨ (90 < c ∧ c < 97) ∨ c = 108 ∨ 122 < c) from by omega) with h | h | h | h | h | h | h | h | h | h | h | h | h
  all_goals
    go_enter Trym.func29, Trym.ntmps29
    go_wp2
    go_ret
    exact ⟨ret_int (by unfold b58v; repeat (first | rw [if_pos (by omega)] | rw [if_neg (by omega)])), rfl⟩
end Go.Proofs.Qxb6601977aMods
