/-
  THE WALKS OF SEAT b6602648aM: typeClause by a contract, and what string equality says of two clauses with one head.
-/
import Derived.Test.Qxb6602648aModsRows
import Derived.WalkKit
namespace Go.Proofs.Qxb6602648aMods
open Go.RowKit
set_option linter.unusedVariables false

/-! ### The plain law: a common head is struck from both sides. -/
theorem head_eq (h a b : ByteArray) : ((h ++ a).toList == (h ++ b).toList) = (a.toList == b.toList) := by
  rw [Bool.eq_iff_iff]
  simp only [beq_iff_eq, ByteArray.toList_eq, ByteArray.data_append, Array.toList_append, List.append_cancel_left_eq]

/-- ' is ' -/
def isB : ByteArray := ⟨#[32, 105, 115, 32]⟩
/-- ' is left out and defaults to ' -/
def leftB : ByteArray := ⟨#[32, 105, 115, 32, 108, 101, 102, 116, 32, 111, 117, 116, 32, 97, 110, 100, 32, 100, 101, 102, 97, 117, 108, 116, 115, 32, 116, 111, 32]⟩

/-- A set value: the field, ' is ', the value. -/
theorem clause_set (f v d : ByteArray) (hv : v.toList.isEmpty = false) (h1 : f.size ≤ 1048576) (h2 : v.size ≤ 1048576) (w : World) :
    Calls Trym.prog 6 #[.string f, .string v, .string d] w fun e w' => e = .returned (.string (f ++ isB ++ v)) ∧ w' = w := by
  go_enter Trym.func6, Trym.ntmps6
  go_wp2
  go_ret
  exact ⟨rfl, rfl⟩
/-- No value: the field, ' is left out and defaults to ', the default. -/
theorem clause_left (f d : ByteArray) (h1 : f.size ≤ 1048576) (h2 : d.size ≤ 1048576) (w : World) :
    Calls Trym.prog 6 #[.string f, .string ByteArray.empty, .string d] w fun e w' => e = .returned (.string (f ++ leftB ++ d)) ∧ w' = w := by
  go_enter Trym.func6, Trym.ntmps6
  go_wp2
  go_ret
  exact ⟨rfl, rfl⟩
/-- The bound on five lengths: it answers something, and turns nothing. -/
theorem bytes5 (a0 a1 a2 a3 a4 : ByteArray) (w : World) :
    Calls Trym.prog 5 #[.string a0, .string a1, .string a2, .string a3, .string a4] w fun e w' => (∃ b, e = .returned (.bool b)) ∧ w' = w := by
  go_enter Trym.func5, Trym.ntmps5
  go_wp2
  all_goals (go_ret; exact ⟨⟨_, rfl⟩, rfl⟩)
/-- The bound on three lengths: it answers something, and turns nothing. -/
theorem bytes3 (a0 a1 a2 : ByteArray) (w : World) :
    Calls Trym.prog 7 #[.string a0, .string a1, .string a2] w fun e w' => (∃ b, e = .returned (.bool b)) ∧ w' = w := by
  go_enter Trym.func7, Trym.ntmps7
  go_wp2
  all_goals (go_ret; exact ⟨⟨_, rfl⟩, rfl⟩)
end Go.Proofs.Qxb6602648aMods
