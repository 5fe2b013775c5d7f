import Derived.Test.Qxb6603698aRows
import Derived.Test.Qxb6603698aMem
import Derived.WalkSpells
namespace Go.Proofs.Qxb6603698a
open Go.ChangeShapes Go.WideShapes Go.ChangeAt Go.RowKit

theorem info21 : (Try.prog.info? 21).map (fun i => (i.zero, i.size, i.bytes)) = some (some (.int .i32 0), 1, 4) := by kernel_rfl
theorem info5 : (Try.prog.info? 5).map (fun i => (i.zero, i.size, i.bytes)) = some (some (.int .u8 0), 1, 1) := by kernel_rfl
theorem info3 : (Try.prog.info? 3).map (fun i => (i.zero, i.size, i.bytes)) = some (some (.int .i64 0), 1, 8) := by kernel_rfl
theorem size21 : (Try.prog.info? 21).map (·.size) = some 1 := by kernel_rfl
theorem size5 : (Try.prog.info? 5).map (·.size) = some 1 := by kernel_rfl

set_option maxHeartbeats 1000000 in
theorem bytes11 (a0 a1 : Option Addr) (n0 c0 n1 c1 : Nat) (h0 : n0 ≤ maxLen) (h1 : n1 ≤ maxLen) (w : World) :
    Calls Try.prog 11 #[.slice a0 n0 c0, .slice a1 n1 c1] w fun e w' => (∃ b : Bool, e = .returned (.bool b)) ∧ w' = w := by
  unfold maxLen at h0 h1
  go_enter Try.func11, Try.ntmps11
  go_wp2
  all_goals (go_ret; exact ⟨⟨_, rfl⟩, rfl⟩)

set_option maxHeartbeats 1000000 in
theorem bytes17 (a0 a1 : Option Addr) (n0 c0 n1 c1 : Nat) (h0 : n0 ≤ maxLen) (h1 : n1 ≤ maxLen) (w : World) :
    Calls Try.prog 17 #[.slice a0 n0 c0, .slice a1 n1 c1] w fun e w' => (∃ b : Bool, e = .returned (.bool b)) ∧ w' = w := by
  unfold maxLen at h0 h1
  go_enter Try.func17, Try.ntmps17
  go_wp2
  all_goals (go_ret; exact ⟨⟨_, rfl⟩, rfl⟩)

theorem fail12_none (a : Option Addr) (n c : Nat) (w : World) :
    Calls Try.prog 12 #[.int .i64 0, .slice a n c] w fun e w' => e = .returned (.bool false) ∧ w' = w := by
  go_enter Try.func12, Try.ntmps12
  go_wp2
  refine wp_loop_rounds 1 ?_
  rw [rounds_succ]
  go_wp2
  go_ret
  exact ⟨rfl, rfl⟩

theorem fail12_short (a : Option Addr) (m n c : Nat) (hm : 1 ≤ m) (hn : n ≤ m) (w : World) :
    Calls Try.prog 12 #[.int .i64 m, .slice a n c] w fun e w' => e = .returned (.bool true) ∧ w' = w := by
  go_enter Try.func12, Try.ntmps12
  go_wp2
  go_ret
  exact ⟨rfl, rfl⟩

set_option maxHeartbeats 1000000 in
theorem fail12 (b off m n c : Nat) (z : Nat → Int) (hm : 1 ≤ m) (hn : m < n) (hmax : n ≤ maxLen) (w : World) (hz : ∀ j, j < n → -2147483648 ≤ z j ∧ z j ≤ 2147483647) (hc : ∀ j, j < n → w.cell? ⟨b, off + j, none⟩ = some (.int .i32 (z j))) :
    Calls Try.prog 12 #[.int .i64 m, .slice (some ⟨b, off, none⟩) n c] w fun e w' => (e = .returned (.bool true) ∨ (e = .returned (.bool false) ∧ ∀ j, 1 ≤ j → j ≤ m → 0 ≤ z j ∧ z j < j)) ∧ w' = w := by
  unfold maxLen at hmax
  have HC := hid hc
  have HZ := hid hz
  clear hc hz
  go_enter Try.func12, Try.ntmps12
  go_wp2
  go_loop [5] (fun i => ∃ k : Nat, 1 ≤ k ∧ k ≤ m + 1 ∧ i = .int .i64 k ∧ Hid (∀ j, 1 ≤ j → j < k → 0 ≤ z j ∧ z j < j)) (fun i => m + 1 - (intOf i).toNat)
  case atStart => exact ⟨1, Nat.le_refl _, by omega, rfl, fun j h1 h2 => by omega⟩
  case round =>
    obtain ⟨k, hk1, hk2, rfl, hbef⟩ := hrel
    by_cases hlt : k ≤ m
    · have hcell := HC.out k (by omega)
      have hzk := HZ.out k (by omega)
      have HB : Hid (0 ≤ z k → z k < k → ∀ j, 1 ≤ j → j < k + 1 → 0 ≤ z j ∧ z j < j) := fun g1 g2 j h1 h2 => by
        by_cases e : j = k
        · subst e; exact ⟨g1, g2⟩
        · exact hbef j h1 (by omega)
      generalize z k = v at hcell hzk HB
      by_cases g1 : v < 0
      · go_wp2
        go_ret
        exact ⟨Or.inl rfl, rfl⟩
      · by_cases g2 : (k : Int) ≤ v
        · go_wp2
          go_ret
          exact ⟨Or.inl rfl, rfl⟩
        · go_wp2
          go_round
          case rel => exact ⟨k + 1, by omega, by omega, by go_num, HB.out (by omega) (by omega)⟩
          case measure => simp [intOf]; omega
    · obtain rfl : k = m + 1 := by omega
      go_wp2
      go_ret
      exact ⟨Or.inr ⟨rfl, fun j h1 h2 => hbef j h1 (by omega)⟩, rfl⟩
end Go.Proofs.Qxb6603698a
