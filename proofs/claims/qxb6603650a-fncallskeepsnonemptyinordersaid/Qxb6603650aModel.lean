import Derived.Test.Qxb6603650aCalls
namespace Go.Proofs.Qxb6603650a
open Go.ChangeShapes Go.WideShapes Go.ChangeAt Go.RowKit

theorem emp_size (q : ByteArray) : emp q = decide (q.size = 0) := by
  unfold emp
  rw [Bool.eq_iff_iff]
  have h : q.toList.length = q.size := by rw [ByteArray.toList_eq]; simp
  rw [decide_eq_true_iff, List.isEmpty_iff_length_eq_zero, h]

theorem pick5_eq (a0 a1 a2 a3 a4 : ByteArray) (k : Nat) (hk : k < 5) : pick5 (k : Int) a0 a1 a2 a3 a4 = [a0, a1, a2, a3, a4].getD k ByteArray.empty := by
  match k, hk with
  | 0, _ => rfl
  | 1, _ => rfl
  | 2, _ => rfl
  | 3, _ => rfl
  | 4, _ => rfl

theorem info9 : (Try.prog.info? 9).map (fun i => (i.zero, i.size, i.bytes)) = some (some (.string ByteArray.empty), 1, 16) := by kernel_rfl

theorem keep_len (l : List ByteArray) (k : Nat) : (keep (l.take k)).length ≤ k :=
  Nat.le_trans (List.length_filter_le _ _) (List.length_take_le _ _)

/-- The struct that ZZcalls builds. -/
abbrev stCells (a0 a1 a2 a3 a4 : ByteArray) : Array Value := #[Value.string a0, Value.nilFunc, Value.nilFunc, Value.string a1, Value.nilFunc, Value.string a2, Value.string a3, Value.string a4, Value.string { data := #[] }, Value.string { data := #[] }, Value.string { data := #[] }, Value.string { data := #[] }, Value.string { data := #[] }, Value.string { data := #[] }, Value.string { data := #[] }, Value.string { data := #[] }, Value.nilFunc, Value.nilFunc]

set_option maxHeartbeats 1000000 in
theorem calls14 (a0 a1 a2 a3 a4 : ByteArray) (w : World) :
    Calls Try.prog 14 #[.agg #[Value.string a0, Value.nilFunc, Value.nilFunc, Value.string a1, Value.nilFunc, Value.string a2, Value.string a3, Value.string a4, Value.string { data := #[] }, Value.string { data := #[] }, Value.string { data := #[] }, Value.string { data := #[] }, Value.string { data := #[] }, Value.string { data := #[] }, Value.string { data := #[] }, Value.string { data := #[] }, Value.nilFunc, Value.nilFunc]] w fun e w' =>
      e = .returned (.slice (some ⟨w.heap.size + 1, 0, none⟩) (keep [a0, a1, a2, a3, a4]).length 5) ∧
      (∀ j, j < (keep [a0, a1, a2, a3, a4]).length → w'.cell? ⟨w.heap.size + 1, j, none⟩ = some (.string ((keep [a0, a1, a2, a3, a4]).getD j ByteArray.empty))) ∧ Below w.heap.size w w' ∧ w.heap.size + 2 ≤ w'.heap.size := by
  obtain ⟨l, hl⟩ : ∃ l, l = keep [a0, a1, a2, a3, a4] := ⟨_, rfl⟩
  have HL : Hid (l = keep [a0, a1, a2, a3, a4]) := hl
  rw [← hl]
  clear hl
  go_enter Try.func14, Try.ntmps14
  go_wp2_with fail
  refine (deleteFunc15 [a0, a1, a2, a3, a4] (w.heap.size + 1) 5 w.heap.size _ (by simp [maxLen]) (by simp) ?_ (by omega)).mono ?_
  · have := Blk.new (w.alloc (Obj.cells (stCells a0 a1 a2 a3 a4) 33)) 9 (strs [a0, a1, a2, a3, a4])
    simpa [strs] using this
  · rw [← HL.out]
    rintro e w' ⟨rfl, hc, hb⟩
    have hs := hb.size
    simp only [World.size_alloc] at hs
    have hb0 := (((Below.refl w.heap.size w).alloc (Nat.le_refl _) (Obj.cells (stCells a0 a1 a2 a3 a4) 33)).alloc (by simp) (Obj.cells #[Value.string a0, Value.string a1, Value.string a2, Value.string a3, Value.string a4] 9)).trans hb
    clear hb
    go_wp2
    go_ret
    exact ⟨rfl, hc, hb0, by omega⟩

set_option maxHeartbeats 1000000 in
theorem zzcalls9 (a0 a1 a2 a3 a4 : ByteArray) (w : World) :
    Calls Try.prog 9 #[.string a0, .string a1, .string a2, .string a3, .string a4] w fun e w' =>
      e = .returned (.slice (some ⟨w.heap.size + 1, 0, none⟩) (keep [a0, a1, a2, a3, a4]).length 5) ∧
      (∀ j, j < (keep [a0, a1, a2, a3, a4]).length → w'.cell? ⟨w.heap.size + 1, j, none⟩ = some (.string ((keep [a0, a1, a2, a3, a4]).getD j ByteArray.empty))) ∧ Below w.heap.size w w' ∧ w.heap.size + 2 ≤ w'.heap.size := by
  have c14 := hid (calls14 a0 a1 a2 a3 a4 w)
  generalize keep [a0, a1, a2, a3, a4] = l at c14 ⊢
  go_enter Try.func9, Try.ntmps9
  go_wp2_with fail
  refine c14.out.mono ?_
  rintro e w' ⟨rfl, hc, hb, hs⟩
  go_wp2
  go_ret
  exact ⟨rfl, hc, hb, hs⟩
end Go.Proofs.Qxb6603650a
