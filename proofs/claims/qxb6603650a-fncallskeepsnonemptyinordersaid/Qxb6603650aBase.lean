import Derived.Test.Qxb6603650aRows
import Derived.WalkKit
import Derived.ProofKit
namespace Go.Proofs.Qxb6603650a
open Go.ChangeShapes Go.WideShapes Go.ChangeAt Go.RowKit

set_option maxHeartbeats 1000000 in
theorem bytes8 (a0 a1 a2 a3 a4 : ByteArray) (w0 : a0.size ≤ maxLen) (w1 : a1.size ≤ maxLen) (w2 : a2.size ≤ maxLen) (w3 : a3.size ≤ maxLen) (w4 : a4.size ≤ maxLen) (w : World) :
    Calls Try.prog 8 #[.string a0, .string a1, .string a2, .string a3, .string a4] w fun e w' => (∃ b : Bool, e = .returned (.bool b)) ∧ w' = w := by
  unfold maxLen at w0 w1 w2 w3 w4
  go_enter Try.func8, Try.ntmps8
  go_wp2
  all_goals (go_ret; exact ⟨⟨_, rfl⟩, rfl⟩)

set_option maxHeartbeats 1000000 in
theorem bytes11 (a0 a1 a2 a3 a4 : ByteArray) (w0 : a0.size ≤ maxLen) (w1 : a1.size ≤ maxLen) (w2 : a2.size ≤ maxLen) (w3 : a3.size ≤ maxLen) (w4 : a4.size ≤ maxLen) (w : World) :
    Calls Try.prog 11 #[.string a0, .string a1, .string a2, .string a3, .string a4] w fun e w' => (∃ b : Bool, e = .returned (.bool b)) ∧ w' = w := by
  unfold maxLen at w0 w1 w2 w3 w4
  go_enter Try.func11, Try.ntmps11
  go_wp2
  all_goals (go_ret; exact ⟨⟨_, rfl⟩, rfl⟩)

/-- sqlAt's choice. -/
def pick5 (i : Int) (a0 a1 a2 a3 a4 : ByteArray) : ByteArray :=
  if i = 0 then a0 else if i = 1 then a1 else if i = 2 then a2 else if i = 3 then a3 else a4

theorem sqlAt12 (i : Int) (a0 a1 a2 a3 a4 : ByteArray) (w : World) :
    Calls Try.prog 12 #[.int .i64 i, .string a0, .string a1, .string a2, .string a3, .string a4] w fun e w' => e = .returned (.string (pick5 i a0 a1 a2 a3 a4)) ∧ w' = w := by
  unfold pick5
  by_cases h0 : i = 0
  · subst h0
    go_enter Try.func12, Try.ntmps12
    go_wp2
    go_ret
    exact ⟨rfl, rfl⟩
  by_cases h1 : i = 1
  · subst h1
    go_enter Try.func12, Try.ntmps12
    go_wp2
    go_ret
    exact ⟨rfl, rfl⟩
  by_cases h2 : i = 2
  · subst h2
    go_enter Try.func12, Try.ntmps12
    go_wp2
    go_ret
    exact ⟨rfl, rfl⟩
  by_cases h3 : i = 3
  · subst h3
    go_enter Try.func12, Try.ntmps12
    go_wp2
    go_ret
    exact ⟨rfl, rfl⟩
  rw [if_neg h0, if_neg h1, if_neg h2, if_neg h3]
  go_enter Try.func12, Try.ntmps12
  go_wp2
  go_ret
  exact ⟨rfl, rfl⟩

theorem closure16 (q : ByteArray) (w : World) :
    Calls Try.prog 16 #[.string q] w fun e w' => e = .returned (.bool q.toList.isEmpty) ∧ w' = w := by
  go_enter Try.func16, Try.ntmps16
  go_wp2
  go_ret
  exact ⟨rfl, rfl⟩
end Go.Proofs.Qxb6603650a
