import Derived.Test.Qxb6603742aFront
namespace Go.Proofs.Qxb6603742a
open Go.ChangeShapes Go.WideShapes Go.ChangeAt Go.RowKit

/-- What the domain's yes says. -/
structure Dom (b wd : Int) (n2 n3 n4 : Nat) (a3 : Option Addr) : Prop where
  b1 : 1 ≤ b
  b2 : b ≤ 1073741824
  wd : ∃ bn wn : Nat, b = bn ∧ wd = wn ∧ wn = (bn + 63) / 64 ∧ 1 ≤ wn ∧ n4 ≤ n2 / wn ∧ (a3 ≠ none → n3 = n2 / wn)

set_option maxHeartbeats 2000000 in
theorem domain21 (b wd : Int) (a2 a3 a4 : Option Addr) (n2 c2 n3 c3 n4 c4 : Nat) (h2 : n2 ≤ maxLen) (w : World) :
    Calls Try.prog 21 #[.int .i64 b, .int .i64 wd, .slice a2 n2 c2, .slice a3 n3 c3, .slice a4 n4 c4] w fun e w' => (e = .returned (.bool false) ∨ (e = .returned (.bool true) ∧ Dom b wd n2 n3 n4 a3)) ∧ w' = w := by
  unfold maxLen at h2
  by_cases q1 : b < 1
  · go_enter Try.func21, Try.ntmps21
    go_wp2
    go_ret
    exact ⟨.inl rfl, rfl⟩
  by_cases q2 : 1073741824 < b
  · go_enter Try.func21, Try.ntmps21
    go_wp2
    go_ret
    exact ⟨.inl rfl, rfl⟩
  obtain ⟨bn, rfl⟩ := Int.eq_ofNat_of_zero_le (show 0 ≤ b by omega)
  by_cases q3 : wd = ((bn : Int) + 63) / 64
  · obtain ⟨wn, hwn⟩ : ∃ wn, wn = (bn + 63) / 64 := ⟨_, rfl⟩
    have e1 : ((bn : Int) + 63) / 64 = (wn : Int) := by omega
    rw [e1] at q3
    subst q3
    have hw1 : 1 ≤ wn := by omega
    obtain ⟨n, hn⟩ : ∃ n, n = n2 / wn := ⟨_, rfl⟩
    have hnn : n ≤ n2 := by rw [hn]; exact Nat.div_le_self _ _
    have e2 : (n2 : Int) / (wn : Int) = (n : Int) := by rw [hn]; simp
    have hneq := fun w => run_neq_slice_nil_any (P := Try.prog) w 23 9 a3 n3 c3 0 0 Try.underlying23
    have HD : Hid (n4 ≤ n → (a3 ≠ none → n3 = n) → Dom (bn : Int) (wn : Int) n2 n3 n4 a3) := fun g1 g2 => ⟨by omega, by omega, bn, wn, rfl, rfl, hwn, hw1, by rw [← hn]; exact g1, by rw [← hn]; exact g2⟩
    clear hn hwn
    have hbm : bn ≤ 1073741824 := by omega
    have hwm : wn ≤ 16777217 := by omega
    by_cases q4 : n < n4
    · go_enter Try.func21, Try.ntmps21
      go_wp2
      go_ret
      exact ⟨.inl rfl, rfl⟩
    · cases a3 with
      | none =>
        go_enter Try.func21, Try.ntmps21
        go_wp2
        go_ret
        exact ⟨.inr ⟨rfl, HD.out (by omega) (fun h => absurd rfl h)⟩, rfl⟩
      | some x =>
        by_cases q5 : n3 = n
        · subst q5
          go_enter Try.func21, Try.ntmps21
          go_wp2
          go_ret
          exact ⟨.inr ⟨rfl, HD.out (by omega) (fun _ => by first | rfl | trivial)⟩, rfl⟩
        · have hbq : ((n3 : Int) != (n : Int)) = true := by simp; omega
          go_enter Try.func21, Try.ntmps21
          go_wp2
          go_ret
          exact ⟨.inl rfl, rfl⟩
  · have hbq : (wd != ((bn : Int) + 63) / 64) = true := by simp [q3]
    go_enter Try.func21, Try.ntmps21
    go_wp2
    go_ret
    exact ⟨.inl rfl, rfl⟩

set_option maxHeartbeats 4000000 in
theorem same24 (ra rb b wd ic jc nc mc : Nat) (ia ib na nb : Option Addr) (xs : List Int) (nms : List ByteArray) (w : World) (hx : xs.length ≤ maxLen) (hn : nms.length ≤ maxLen)
    (hA : Blk w ra 47 [.int .i64 b, .int .i64 wd, .slice ia xs.length ic, .slice na nms.length nc]) (hB : Blk w rb 47 [.int .i64 b, .int .i64 wd, .slice ib xs.length jc, .slice nb nms.length mc])
    (cA : Cells w ia xs.length (uv xs)) (cB : Cells w ib xs.length (uv xs)) (sA : Cells w na nms.length (sv nms)) (sB : Cells w nb nms.length (sv nms)) (hnil : na = none ↔ nb = none) :
    Calls Try.prog 24 #[.pointer (some ⟨ra, 0, none⟩), .pointer (some ⟨rb, 0, none⟩)] w fun e w' => e = .returned (.bool true) ∧ Drawn w w' := by
  unfold maxLen at hx hn
  have HA := hid hA
  have HB := hid hB
  have CA := hid cA
  have CB := hid cB
  have SA := hid sA
  have SB := hid sB
  have hn1 := fun w => Lib.run_eql_slice_nil (P := Try.prog) w 23 9 na nms.length nc 0 0 Try.underlying23
  have hn2 := fun w => Lib.run_eql_slice_nil (P := Try.prog) w 23 9 nb nms.length mc 0 0 Try.underlying23
  have hnn : na.isNone = nb.isNone := by
    cases na <;> cases nb <;> simp_all
  rw [hnn] at hn1
  clear hA hB cA cB sA sB hnil hnn
  go_enter Try.func24, Try.ntmps24
  go_wp2_with fail
  refine (fields27 ra b wd ia na xs.length ic nms.length nc w HA.out).mono ?_
  rintro e w1 ⟨rfl, q1, rfl⟩
  go_wp2_with fail
  refine (fields27 rb b wd ib nb xs.length jc nms.length mc _ (by exact HB.out)).mono ?_
  rintro e w2 ⟨rfl, q2, rfl⟩
  clear HA HB
  go_wp2_with fail
  go_loopw [13] (fun i wr => ∃ k : Nat, k ≤ xs.length ∧ i = .int .i64 k ∧ ∃ q, wr = w.drewN q) (fun i _ => xs.length - (intOf i).toNat)
  case atStart => exact ⟨0, Nat.zero_le _, rfl, _, by first | rfl | exact drewN_drewN' _ _ _⟩
  case round =>
    obtain ⟨k, hk, rfl, q, rfl⟩ := hrel
    by_cases hlt : k < xs.length
    · obtain ⟨g1, o1, rfl, hc1⟩ := CA.out (by omega)
      obtain ⟨g2, o2, rfl, hc2⟩ := CB.out (by omega)
      have e1 := hc1 k hlt
      have e2 := hc2 k hlt
      unfold uv at e1 e2
      clear hc1 hc2
      generalize xs.getD k 0 = x at e1 e2
      have hz1 : (k : Int) < (xs.length : Int) := by omega
      go_wp2
      go_quiet (fail)
      go_wp2
      go_roundw
      case rel => exact ⟨k + 1, by omega, by go_num, _, rfl⟩
      case measure => simp [intOf]; omega
    · go_wp2_with fail
      go_loopw [14] (fun i wr => ∃ k : Nat, k ≤ nms.length ∧ i = .int .i64 k ∧ ∃ q, wr = w.drewN q) (fun i _ => nms.length - (intOf i).toNat)
      case atStart => exact ⟨0, Nat.zero_le _, rfl, q, rfl⟩
      case round =>
        obtain ⟨j, hj, rfl, q, rfl⟩ := hrel
        by_cases hlt2 : j < nms.length
        · obtain ⟨g1, o1, rfl, hc1⟩ := SA.out (by omega)
          obtain ⟨g2, o2, rfl, hc2⟩ := SB.out (by omega)
          have e1 := hc1 j hlt2
          have e2 := hc2 j hlt2
          unfold sv at e1 e2
          clear hc1 hc2
          generalize nms.getD j ByteArray.empty = x at e1 e2
          have hz1 : (j : Int) < (nms.length : Int) := by omega
          go_wp2
          go_quiet (fail)
          go_wp2
          go_roundw
          case rel => exact ⟨j + 1, by omega, by go_num, _, rfl⟩
          case measure => simp [intOf]; omega
        · go_wp2
          go_ret
          exact ⟨rfl, q, rfl⟩
end Go.Proofs.Qxb6603742a
