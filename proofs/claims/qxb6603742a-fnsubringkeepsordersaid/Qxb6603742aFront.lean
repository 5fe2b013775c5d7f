import Derived.Test.Qxb6603742aRing
namespace Go.Proofs.Qxb6603742a
open Go.ChangeShapes Go.WideShapes Go.ChangeAt Go.RowKit

/-- The call returned one bool or the other. -/
def IsBool (e : Ending) : Prop := ∃ r : Bool, e = .returned (.bool r)
theorem IsBool.mk (r : Bool) : IsBool (.returned (.bool r)) := ⟨r, rfl⟩

set_option maxHeartbeats 2000000 in
theorem bytes20 (b wd : Int) (a2 a3 : Option Addr) (n2 c2 n3 c3 : Nat) (G : Nat → ByteArray) (h2 : n2 ≤ maxLen) (h3 : n3 ≤ maxLen) (a4 a5 : Option Addr) (n4 c4 n5 c5 : Nat) (h4 : n4 ≤ maxLen) (h5 : n5 ≤ maxLen) (w : World) (hc : Cells w a3 n3 (fun j => .string (G j))) :
    Calls Try.prog 20 #[.int .i64 b, .int .i64 wd, .slice a2 n2 c2, .slice a3 n3 c3, .slice a4 n4 c4, .slice a5 n5 c5] w fun e w' => (e = .returned (.bool false) ∨ (e = .returned (.bool true) ∧ ∀ j, j < n3 → (G j).size ≤ 1048576)) ∧ w' = w := by
  unfold maxLen at h2 h3 h4 h5
  have HC := hid hc
  clear hc
  go_enter Try.func20, Try.ntmps20
  go_wp2_with fail
  any_goals (go_ret; exact ⟨.inl rfl, rfl⟩)
  go_loop [13, 14] (fun z i => ∃ (k : Nat) (t : Int), k ≤ n3 ∧ i = .int .i64 k ∧ z = .int .i64 t ∧ 0 ≤ t ∧ t ≤ 1048576 ∧ Hid (∀ j, j < k → (G j).size ≤ 1048576)) (fun _ i => n3 - (intOf i).toNat)
  case atStart => exact ⟨0, _, Nat.zero_le _, rfl, rfl, by omega, by omega, fun j hj => by omega⟩
  case round =>
    obtain ⟨k, t, hk, rfl, rfl, ht1, ht2, hall⟩ := hrel
    by_cases hlt : k < n3
    · obtain ⟨g, o, rfl, hcl⟩ := HC.out (by omega)
      have e1 : w.cell? ⟨g, o + k, none⟩ = some (.string (G k)) := hcl k hlt
      clear hcl
      have HN : Hid ((G k).size ≤ 1048576 → ∀ j, j < k + 1 → (G j).size ≤ 1048576) := fun h j hj => by
        by_cases e : j = k
        · rw [e]; exact h
        · exact hall.out j (by omega)
      generalize G k = s at e1 HN
      go_wp2
      any_goals (go_ret; exact ⟨.inl rfl, rfl⟩)
      go_round
      case rel => exact ⟨k + 1, _, by omega, by go_num, rfl, by omega, by omega, HN.out (by omega)⟩
      case measure => simp [intOf]; omega
    · have HALL : Hid (∀ j, j < n3 → (G j).size ≤ 1048576) := fun j hj => hall.out j (by omega)
      go_wp2
      all_goals (go_ret; first | exact ⟨.inl rfl, rfl⟩ | exact ⟨.inr ⟨rfl, HALL.out⟩, rfl⟩)

set_option maxHeartbeats 2000000 in
theorem bytes17 (b wd : Int) (a2 a3 : Option Addr) (n2 c2 n3 c3 : Nat) (G : Nat → ByteArray) (h2 : n2 ≤ maxLen) (h3 : n3 ≤ maxLen) (a4 : Option Addr) (n4 c4 : Nat) (h4 : n4 ≤ maxLen) (w : World) (hc : Cells w a3 n3 (fun j => .string (G j))) :
    Calls Try.prog 17 #[.int .i64 b, .int .i64 wd, .slice a2 n2 c2, .slice a3 n3 c3, .slice a4 n4 c4] w fun e w' => (e = .returned (.bool false) ∨ (e = .returned (.bool true) ∧ ∀ j, j < n3 → (G j).size ≤ 1048576)) ∧ w' = w := by
  unfold maxLen at h2 h3 h4
  have HC := hid hc
  clear hc
  go_enter Try.func17, Try.ntmps17
  go_wp2_with fail
  any_goals (go_ret; exact ⟨.inl rfl, rfl⟩)
  go_loop [11, 12] (fun z i => ∃ (k : Nat) (t : Int), k ≤ n3 ∧ i = .int .i64 k ∧ z = .int .i64 t ∧ 0 ≤ t ∧ t ≤ 1048576 ∧ Hid (∀ j, j < k → (G j).size ≤ 1048576)) (fun _ i => n3 - (intOf i).toNat)
  case atStart => exact ⟨0, _, Nat.zero_le _, rfl, rfl, by omega, by omega, fun j hj => by omega⟩
  case round =>
    obtain ⟨k, t, hk, rfl, rfl, ht1, ht2, hall⟩ := hrel
    by_cases hlt : k < n3
    · obtain ⟨g, o, rfl, hcl⟩ := HC.out (by omega)
      have e1 : w.cell? ⟨g, o + k, none⟩ = some (.string (G k)) := hcl k hlt
      clear hcl
      have HN : Hid ((G k).size ≤ 1048576 → ∀ j, j < k + 1 → (G j).size ≤ 1048576) := fun h j hj => by
        by_cases e : j = k
        · rw [e]; exact h
        · exact hall.out j (by omega)
      generalize G k = s at e1 HN
      go_wp2
      any_goals (go_ret; exact ⟨.inl rfl, rfl⟩)
      go_round
      case rel => exact ⟨k + 1, _, by omega, by go_num, rfl, by omega, by omega, HN.out (by omega)⟩
      case measure => simp [intOf]; omega
    · have HALL : Hid (∀ j, j < n3 → (G j).size ≤ 1048576) := fun j hj => hall.out j (by omega)
      go_wp2
      all_goals (go_ret; first | exact ⟨.inl rfl, rfl⟩ | exact ⟨.inr ⟨rfl, HALL.out⟩, rfl⟩)

set_option maxHeartbeats 2000000 in
theorem bytes19 (b wd : Int) (a2 a3 : Option Addr) (n2 c2 n3 c3 : Nat) (G : Nat → ByteArray) (h2 : n2 ≤ maxLen) (h3 : n3 ≤ maxLen) (a4 : Option Addr) (n4 c4 : Nat) (h4 : n4 ≤ maxLen) (w : World) (hc : Cells w a3 n3 (fun j => .string (G j))) :
    Calls Try.prog 19 #[.int .i64 b, .int .i64 wd, .slice a2 n2 c2, .slice a3 n3 c3, .slice a4 n4 c4] w fun e w' => (e = .returned (.bool false) ∨ (e = .returned (.bool true) ∧ ∀ j, j < n3 → (G j).size ≤ 1048576)) ∧ w' = w := by
  unfold maxLen at h2 h3 h4
  have HC := hid hc
  clear hc
  go_enter Try.func19, Try.ntmps19
  go_wp2_with fail
  any_goals (go_ret; exact ⟨.inl rfl, rfl⟩)
  go_loop [11, 12] (fun z i => ∃ (k : Nat) (t : Int), k ≤ n3 ∧ i = .int .i64 k ∧ z = .int .i64 t ∧ 0 ≤ t ∧ t ≤ 1048576 ∧ Hid (∀ j, j < k → (G j).size ≤ 1048576)) (fun _ i => n3 - (intOf i).toNat)
  case atStart => exact ⟨0, _, Nat.zero_le _, rfl, rfl, by omega, by omega, fun j hj => by omega⟩
  case round =>
    obtain ⟨k, t, hk, rfl, rfl, ht1, ht2, hall⟩ := hrel
    by_cases hlt : k < n3
    · obtain ⟨g, o, rfl, hcl⟩ := HC.out (by omega)
      have e1 : w.cell? ⟨g, o + k, none⟩ = some (.string (G k)) := hcl k hlt
      clear hcl
      have HN : Hid ((G k).size ≤ 1048576 → ∀ j, j < k + 1 → (G j).size ≤ 1048576) := fun h j hj => by
        by_cases e : j = k
        · rw [e]; exact h
        · exact hall.out j (by omega)
      generalize G k = s at e1 HN
      go_wp2
      any_goals (go_ret; exact ⟨.inl rfl, rfl⟩)
      go_round
      case rel => exact ⟨k + 1, _, by omega, by go_num, rfl, by omega, by omega, HN.out (by omega)⟩
      case measure => simp [intOf]; omega
    · have HALL : Hid (∀ j, j < n3 → (G j).size ≤ 1048576) := fun j hj => hall.out j (by omega)
      go_wp2
      all_goals (go_ret; first | exact ⟨.inl rfl, rfl⟩ | exact ⟨.inr ⟨rfl, HALL.out⟩, rfl⟩)

set_option maxHeartbeats 2000000 in
theorem bytes25 (b wd : Int) (a2 a3 : Option Addr) (n2 c2 n3 c3 : Nat) (G : Nat → ByteArray) (h2 : n2 ≤ maxLen) (h3 : n3 ≤ maxLen) (a4 : Option Addr) (n4 c4 : Nat) (h4 : n4 ≤ maxLen) (w : World) (hc : Cells w a3 n3 (fun j => .string (G j))) :
    Calls Try.prog 25 #[.int .i64 b, .int .i64 wd, .slice a2 n2 c2, .slice a3 n3 c3, .slice a4 n4 c4] w fun e w' => (e = .returned (.bool false) ∨ (e = .returned (.bool true) ∧ ∀ j, j < n3 → (G j).size ≤ 1048576)) ∧ w' = w := by
  unfold maxLen at h2 h3 h4
  have HC := hid hc
  clear hc
  go_enter Try.func25, Try.ntmps25
  go_wp2_with fail
  any_goals (go_ret; exact ⟨.inl rfl, rfl⟩)
  go_loop [11, 12] (fun z i => ∃ (k : Nat) (t : Int), k ≤ n3 ∧ i = .int .i64 k ∧ z = .int .i64 t ∧ 0 ≤ t ∧ t ≤ 1048576 ∧ Hid (∀ j, j < k → (G j).size ≤ 1048576)) (fun _ i => n3 - (intOf i).toNat)
  case atStart => exact ⟨0, _, Nat.zero_le _, rfl, rfl, by omega, by omega, fun j hj => by omega⟩
  case round =>
    obtain ⟨k, t, hk, rfl, rfl, ht1, ht2, hall⟩ := hrel
    by_cases hlt : k < n3
    · obtain ⟨g, o, rfl, hcl⟩ := HC.out (by omega)
      have e1 : w.cell? ⟨g, o + k, none⟩ = some (.string (G k)) := hcl k hlt
      clear hcl
      have HN : Hid ((G k).size ≤ 1048576 → ∀ j, j < k + 1 → (G j).size ≤ 1048576) := fun h j hj => by
        by_cases e : j = k
        · rw [e]; exact h
        · exact hall.out j (by omega)
      generalize G k = s at e1 HN
      go_wp2
      any_goals (go_ret; exact ⟨.inl rfl, rfl⟩)
      go_round
      case rel => exact ⟨k + 1, _, by omega, by go_num, rfl, by omega, by omega, HN.out (by omega)⟩
      case measure => simp [intOf]; omega
    · have HALL : Hid (∀ j, j < n3 → (G j).size ≤ 1048576) := fun j hj => hall.out j (by omega)
      go_wp2
      all_goals (go_ret; first | exact ⟨.inl rfl, rfl⟩ | exact ⟨.inr ⟨rfl, HALL.out⟩, rfl⟩)

set_option maxHeartbeats 2000000 in
theorem namesTooBig9 (a3 : Option Addr) (n3 c3 : Nat) (G : Nat → ByteArray) (base : Int) (h0 : 0 ≤ base) (h1 : base ≤ 1099511627776) (h3 : n3 ≤ 1048576) (w : World) (hc : Cells w a3 n3 (fun j => .string (G j))) (hs : ∀ j, j < n3 → (G j).size ≤ 140737488355328) :
    Calls Try.prog 9 #[.slice a3 n3 c3, .int .i64 base] w fun e w' => IsBool e ∧ w' = w := by
  have HC := hid hc
  have HS := hid hs
  clear hc hs
  go_enter Try.func9, Try.ntmps9
  go_wp2_with fail
  any_goals (go_ret; exact ⟨IsBool.mk _, rfl⟩)
  go_loop [5, 6] (fun z i => ∃ (k : Nat) (t : Int), k ≤ n3 ∧ i = .int .i64 k ∧ z = .int .i64 t ∧ 0 ≤ t ∧ t ≤ 1048576) (fun _ i => n3 - (intOf i).toNat)
  case atStart => exact ⟨0, _, Nat.zero_le _, rfl, rfl, by omega, by omega⟩
  case round =>
    obtain ⟨k, t, hk, rfl, rfl, ht1, ht2⟩ := hrel
    by_cases hlt : k < n3
    · obtain ⟨g, o, rfl, hcl⟩ := HC.out (by omega)
      have e1 : w.cell? ⟨g, o + k, none⟩ = some (.string (G k)) := hcl k hlt
      have e2 := HS.out k hlt
      clear hcl
      generalize G k = s at e1 e2
      go_wp2
      any_goals (go_ret; exact ⟨IsBool.mk _, rfl⟩)
      go_round
      case rel => exact ⟨k + 1, _, by omega, by go_num, rfl, by omega, by omega⟩
      case measure => simp [intOf]; omega
    · go_wp2
      go_ret
      exact ⟨IsBool.mk _, rfl⟩
end Go.Proofs.Qxb6603742a
