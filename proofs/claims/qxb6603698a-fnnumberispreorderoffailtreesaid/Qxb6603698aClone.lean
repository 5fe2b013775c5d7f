import Derived.Test.Qxb6603698aBase
namespace Go.Proofs.Qxb6603698a
open Go.ChangeShapes Go.WideShapes Go.ChangeAt Go.RowKit

theorem clone14_nil (w : World) : Calls Try.prog 14 #[.slice none 0 0] w fun e w' => e = .returned (.slice none 0 0) ∧ w' = w := by
  have hn := fun w => Lib.run_eql_slice_nil (P := Try.prog) w 33 21 none 0 0 0 0 Try.underlying33
  go_enter Try.func14, Try.ntmps14
  go_wp2
  go_ret
  exact ⟨rfl, rfl⟩

theorem clone13_nil (w : World) : Calls Try.prog 13 #[.slice none 0 0] w fun e w' => e = .returned (.slice none 0 0) ∧ w' = w := by
  have hn := fun w => Lib.run_eql_slice_nil (P := Try.prog) w 32 5 none 0 0 0 0 Try.underlying32
  go_enter Try.func13, Try.ntmps13
  go_wp2
  go_ret
  exact ⟨rfl, rfl⟩

theorem range_map_len (n : Nat) (G : Nat → Value) : ((List.range n).map G).length = n := by simp

theorem splice_all {n : Nat} {G G' : Nat → Value} : splice ((List.range n).map G) 0 ((List.range n).map G') = (List.range n).map G' := by
  simp [splice]

set_option maxHeartbeats 1000000 in
theorem clone14 (x : Addr) (n c : Nat) (z : Nat → Int) (w : World) (hn : n ≤ 65536) (hc : ∀ j, j < n → w.cell? (x.add j) = some (.int .i32 (z j))) :
    Calls Try.prog 14 #[.slice (some x) n c] w fun e w' => e = .returned (.slice (some ⟨w.heap.size, 0, none⟩) n n) ∧ Arr w' w.heap.size 21 n (iv .i32 z) ∧ Below w.heap.size w w' ∧ w.heap.size < w'.heap.size := by
  have hnil := fun w => Lib.run_eql_slice_nil (P := Try.prog) w 33 21 (some x) n c 0 0 Try.underlying33
  have hmk := fun w => run_make_row' (P := Try.prog) 33 21 (.int .i32 0) 4 Try.underlying33 info21 rfl .i64 .i64 n (by omega) (by omega) w
  have HC := hid hc
  clear hc
  obtain ⟨G0, hG0⟩ : ∃ G0 : Nat → Value, G0 = fun _ => Value.int .i32 0 := ⟨_, rfl⟩
  have hA : Arr (w.alloc (.cells (madeCells #[.int .i32 0] n) 21)) w.heap.size 21 n G0 := by rw [hG0]; exact Arr.made w 21 (.int .i32 0) n
  have HA := hid hA
  have HB := hid ((Below.refl w.heap.size w).alloc (Nat.le_refl _) (.cells (madeCells #[.int .i32 0] n) 21))
  have HS : Hid (w.heap.size < (w.alloc (.cells (madeCells #[.int .i32 0] n) 21)).heap.size) := by show _ < _; simp
  clear hA hG0
  go_enter Try.func14, Try.ntmps14
  go_wp2_with (refine wpList_copy_splice rfl (.tmp 9) (.tmp 10) 33 33 rfl 21 Try.underlying33 size21 _ _ _ _ _ _ rfl rfl w.heap.size 0 ((List.range n).map G0) 21 HA.out ((List.range n).map (iv .i32 z)) (by simp) ?_ (by simp) ?_ w.heap.size w HB.out (Nat.le_refl _) ?_)
  · intro _ j a hj
    have hjn : j < n := by have := (List.getElem?_eq_some_iff.1 hj).1; simpa using this
    have hv : a = j := by simpa [hjn] using hj.symm
    subst hv
    exact Lib.cell?_alloc_some _ (HC.out a hjn)
  · intro v hv
    obtain ⟨j, _, rfl⟩ := List.mem_map.1 hv
    rfl
  · intro w' hg hb
    rw [splice_all] at hg
    have HG := hid hg
    have HB2 := hid hb
    clear hg hb
    go_wp2
    go_ret
    refine ⟨rfl, HG.out.out, HB2.out, ?_⟩
    exact Arr.lt (G := iv .i32 z) (n := n) (e := 21) HG.out.out
set_option maxHeartbeats 1000000 in
theorem clone13 (x : Addr) (n c : Nat) (z : Nat → Int) (w : World) (hn : n ≤ 65536) (hc : ∀ j, j < n → w.cell? (x.add j) = some (.int .u8 (z j))) :
    Calls Try.prog 13 #[.slice (some x) n c] w fun e w' => e = .returned (.slice (some ⟨w.heap.size, 0, none⟩) n n) ∧ Arr w' w.heap.size 5 n (iv .u8 z) ∧ Below w.heap.size w w' ∧ w.heap.size < w'.heap.size := by
  have hnil := fun w => Lib.run_eql_slice_nil (P := Try.prog) w 32 5 (some x) n c 0 0 Try.underlying32
  have hmk := fun w => run_make_row' (P := Try.prog) 32 5 (.int .u8 0) 1 Try.underlying32 info5 rfl .i64 .i64 n (by omega) (by omega) w
  have HC := hid hc
  clear hc
  obtain ⟨G0, hG0⟩ : ∃ G0 : Nat → Value, G0 = fun _ => Value.int .u8 0 := ⟨_, rfl⟩
  have hA : Arr (w.alloc (.cells (madeCells #[.int .u8 0] n) 5)) w.heap.size 5 n G0 := by rw [hG0]; exact Arr.made w 5 (.int .u8 0) n
  have HA := hid hA
  have HB := hid ((Below.refl w.heap.size w).alloc (Nat.le_refl _) (.cells (madeCells #[.int .u8 0] n) 5))
  have HS : Hid (w.heap.size < (w.alloc (.cells (madeCells #[.int .u8 0] n) 5)).heap.size) := by show _ < _; simp
  clear hA hG0
  go_enter Try.func13, Try.ntmps13
  go_wp2_with (refine wpList_copy_splice rfl (.tmp 9) (.tmp 10) 32 32 rfl 5 Try.underlying32 size5 _ _ _ _ _ _ rfl rfl w.heap.size 0 ((List.range n).map G0) 5 HA.out ((List.range n).map (iv .u8 z)) (by simp) ?_ (by simp) ?_ w.heap.size w HB.out (Nat.le_refl _) ?_)
  · intro _ j a hj
    have hjn : j < n := by have := (List.getElem?_eq_some_iff.1 hj).1; simpa using this
    have hv : a = j := by simpa [hjn] using hj.symm
    subst hv
    exact Lib.cell?_alloc_some _ (HC.out a hjn)
  · intro v hv
    obtain ⟨j, _, rfl⟩ := List.mem_map.1 hv
    rfl
  · intro w' hg hb
    rw [splice_all] at hg
    have HG := hid hg
    have HB2 := hid hb
    clear hg hb
    go_wp2
    go_ret
    refine ⟨rfl, HG.out.out, HB2.out, ?_⟩
    exact Arr.lt (G := iv .u8 z) (n := n) (e := 5) HG.out.out
end Go.Proofs.Qxb6603698a
