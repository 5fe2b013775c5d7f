import Derived.Test.Qxb6603742aRead2
namespace Go.Proofs.Qxb6603742a
open Go.ChangeShapes Go.WideShapes Go.ChangeAt Go.RowKit

theorem idx_lt {i wd n : Nat} (hw : 1 ≤ wd) (h : i * wd + wd ≤ n) : i + 1 ≤ n := by
  have : i * 1 ≤ i * wd := Nat.mul_le_mul_left i hw
  omega

set_option maxHeartbeats 1000000 in
theorem nodeAt16 (g o c n wd i lo : Nat) (w : World) (hlo : lo = i * wd) (hw : 1 ≤ wd) (hn : lo + wd ≤ n) (hc : n ≤ c) (hcm : c ≤ maxLen) :
    Calls Try.prog 16 #[.slice (some ⟨g, o, none⟩) n c, .int .i64 wd, .int .i64 i] w fun e w' => e = .returned (.slice (some ⟨g, o + lo, none⟩) wd (c - lo)) ∧ w' = w := by
  unfold maxLen at hcm
  have hi : i + 1 ≤ n := idx_lt hw (by rw [hlo] at hn; exact hn)
  have e1 : (i : Int) * (wd : Int) = (lo : Int) := by rw [hlo]; simp
  have e2 : ((i : Int) + 1) * (wd : Int) = (lo : Int) + (wd : Int) := by rw [Int.add_mul, e1]; simp
  have hlt : lo < c := by omega
  clear hlo
  go_enter Try.func16, Try.ntmps16
  go_wp2
  go_ret
  exact ⟨by simp, rfl⟩

/-- nodeAt's slice shows the node. -/
theorem cells_nd {w : World} {g o lo wd i : Nat} {xs : List Int} (hlo : lo = i * wd) (hn : lo + wd ≤ xs.length) (hc : ∀ j, j < xs.length → w.cell? ⟨g, o + j, none⟩ = some (uv xs j)) :
    (nd wd xs i).length = wd ∧ Cells w (some ⟨g, o + lo, none⟩) wd (uv (nd wd xs i)) := by
  refine ⟨nd_length (by rw [Nat.succ_mul]; omega), fun _ => ⟨g, o + lo, rfl, fun j hj => ?_⟩⟩
  rw [Nat.add_assoc, hc (lo + j) (by omega)]
  unfold uv
  rw [nd_getD hj, hlo]

set_option maxHeartbeats 1000000 in
theorem len26 (rb n ic wd q : Nat) (ia : Option Addr) (b nm : Value) (w : World) (hw : 1 ≤ wd) (hn : n ≤ maxLen) (hwm : wd ≤ maxLen) (hq : q = n / wd) (hr : Blk w rb 47 [b, .int .i64 wd, .slice ia n ic, nm]) :
    Calls Try.prog 26 #[.pointer (some ⟨rb, 0, none⟩)] w fun e w' => e = .returned (.int .i64 q) ∧ Drawn w w' := by
  have hqn : q ≤ n := by rw [hq]; exact Nat.div_le_self _ _
  have e3 : (n : Int) / (wd : Int) = (q : Int) := by rw [hq]; simp
  clear hq
  unfold maxLen at hn hwm
  have c1 : w.cell? ⟨rb, 1, none⟩ = some (.int .i64 wd) := by simpa using hr.cell 1
  have c2 : w.cell? ⟨rb, 2, none⟩ = some (.slice ia n ic) := by simpa using hr.cell 2
  clear hr
  go_enter Try.func26, Try.ntmps26
  go_wp2
  go_quiet (fail)
  go_wp2
  go_ret
  exact ⟨by simp, ⟨_, rfl⟩⟩

set_option maxHeartbeats 2000000 in
theorem node31 (rb g o c n wd i lo : Nat) (b nm : Value) (w : World) (hlo : lo = i * wd) (hw : 1 ≤ wd) (hn : lo + wd ≤ n) (hc : n ≤ c) (hcm : c ≤ maxLen) (hr : Blk w rb 47 [b, .int .i64 wd, .slice (some ⟨g, o, none⟩) n c, nm]) :
    Calls Try.prog 31 #[.pointer (some ⟨rb, 0, none⟩), .int .i64 i] w fun e w' => e = .returned (.slice (some ⟨g, o + lo, none⟩) wd wd) ∧ Drawn w w' := by
  unfold maxLen at hcm
  have hi : i + 1 ≤ n := idx_lt hw (by rw [hlo] at hn; exact hn)
  have e1 : (i : Int) * (wd : Int) = (lo : Int) := by rw [hlo]; simp
  have e2 : ((i : Int) + 1) * (wd : Int) = (lo : Int) + (wd : Int) := by rw [Int.add_mul, e1]; simp
  have hlt : lo < c := by omega
  have c1 : w.cell? ⟨rb, 1, none⟩ = some (.int .i64 wd) := by simpa using hr.cell 1
  have c2 : w.cell? ⟨rb, 2, none⟩ = some (.slice (some ⟨g, o, none⟩) n c) := by simpa using hr.cell 2
  clear hlo hr
  go_enter Try.func31, Try.ntmps31
  go_wp2
  go_quiet (fail)
  go_wp2
  go_ret
  exact ⟨by simp, ⟨_, rfl⟩⟩
end Go.Proofs.Qxb6603742a
