import Derived.Test.Qxb6603650aModel
namespace Go.Proofs.Qxb6603650a
open Go.ChangeShapes Go.WideShapes Go.ChangeAt Go.RowKit

/-- The texts joined, in order. -/
def joinB : List ByteArray → ByteArray
  | [] => ⟨#[]⟩
  | q :: r => q ++ joinB r

theorem joinB_snoc (l : List ByteArray) (q : ByteArray) : joinB (l ++ [q]) = joinB l ++ q := by
  induction l with
  | nil => simp [joinB]; apply ByteArray.ext; simp
  | cons x r ih => simp only [List.cons_append, joinB, ih]; apply ByteArray.ext; simp

theorem joinB_keep (l : List ByteArray) : joinB (keep l) = joinB l := by
  induction l with
  | nil => rfl
  | cons x r ih =>
    unfold keep at ih ⊢
    by_cases h : emp x = true
    · have h0 : x.size = 0 := by simpa [emp_size] using h
      have hx : x = ⟨#[]⟩ := by
        apply ByteArray.ext
        exact Array.eq_empty_of_size_eq_zero (by simpa using h0)
      rw [List.filter_cons, if_neg (by simp [h]), ih]
      simp only [joinB, hx]
      apply ByteArray.ext; simp
    · have h' : emp x = false := by simpa using h
      rw [List.filter_cons, if_pos (by simp [h'])]
      simp only [joinB, ih]

theorem joinB_size (l : List ByteArray) (B : Nat) (h : ∀ q ∈ l, q.size ≤ B) : (joinB l).size ≤ l.length * B := by
  induction l with
  | nil => exact Nat.zero_le _
  | cons x r ih =>
    have h1 := h x (by simp)
    have h2 := ih (fun q hq => h q (by simp [hq]))
    simp only [joinB, ByteArray.size_append, List.length_cons, Nat.add_mul]
    omega

theorem joinB_take_size (l : List ByteArray) (k : Nat) (hl : l.length ≤ 5) (h : ∀ q ∈ l, q.size ≤ 65536) : (joinB (l.take k)).size ≤ 327680 := by
  have h1 := joinB_size (l.take k) 65536 (fun q hq => h q (List.mem_of_mem_take hq))
  have h5 : (l.take k).length ≤ 5 := Nat.le_trans (List.length_take_le' _ _) hl
  omega

theorem keep_mem (l : List ByteArray) (q : ByteArray) (h : q ∈ keep l) : q ∈ l ∧ emp q = false := by
  unfold keep at h
  have := List.mem_filter.1 h
  exact ⟨this.1, by simpa using this.2⟩

theorem pos_of_not_emp (q : ByteArray) (h : emp q = false) : 0 < q.size := by
  rw [emp_size, decide_eq_false_iff_not] at h
  omega

theorem joinB_five (a0 a1 a2 a3 a4 : ByteArray) : joinB [a0, a1, a2, a3, a4] = a0 ++ a1 ++ a2 ++ a3 ++ a4 := by
  simp only [joinB]; apply ByteArray.ext; simp

theorem getD_mem {l : List ByteArray} {k : Nat} (h : k < l.length) : l.getD k ByteArray.empty ∈ l := by
  simp [List.getD, h]

set_option maxHeartbeats 2000000 in
theorem concat_main (a0 a1 a2 a3 a4 : ByteArray) (h0 : a0.size ≤ 65536) (h1 : a1.size ≤ 65536) (h2 : a2.size ≤ 65536) (h3 : a3.size ≤ 65536) (h4 : a4.size ≤ 65536) (w : World) :
    Calls Try.prog 5 #[.string a0, .string a1, .string a2, .string a3, .string a4] w fun e w' => e = .returned (.bool true) ∧ Below w.heap.size w w' := by
  have m0 : a0.size ≤ maxLen := by unfold maxLen; omega
  have m1 : a1.size ≤ maxLen := by unfold maxLen; omega
  have m2 : a2.size ≤ maxLen := by unfold maxLen; omega
  have m3 : a3.size ≤ maxLen := by unfold maxLen; omega
  have m4 : a4.size ≤ maxLen := by unfold maxLen; omega
  have z9 := hid (zzcalls9 a0 a1 a2 a3 a4 w)
  have hsz : ∀ q ∈ keep [a0, a1, a2, a3, a4], q.size ≤ 65536 ∧ emp q = false := fun q hq => by
    have := keep_mem _ _ hq
    refine ⟨?_, this.2⟩
    have hm := this.1
    simp only [List.mem_cons, List.not_mem_nil, or_false] at hm
    rcases hm with rfl | rfl | rfl | rfl | rfl <;> assumption
  have hkl : (keep [a0, a1, a2, a3, a4]).length ≤ 5 := List.length_filter_le _ _
  have hjoin := joinB_keep [a0, a1, a2, a3, a4]
  rw [joinB_five] at hjoin
  obtain ⟨l, hl⟩ : ∃ l, l = keep [a0, a1, a2, a3, a4] := ⟨_, rfl⟩
  rw [← hl] at z9 hsz hkl hjoin
  have HL := hid hl
  have HS := hid hsz
  have HJ := hid hjoin
  clear hl hsz hjoin
  go_enter Try.func5, Try.ntmps5
  go_wp2_with fail
  refine (bytes11 a0 a1 a2 a3 a4 m0 m1 m2 m3 m4 w).mono ?_
  rintro e w' ⟨⟨b, rfl⟩, rfl⟩
  cases b with
  | false =>
    go_wp2
    go_ret
    exact ⟨rfl, Below.refl _ _⟩
  | true =>
    go_wp2_with fail
    refine z9.out.mono ?_
    rintro e w1 ⟨rfl, hc, hbel, hws⟩
    have HC := hid hc
    have HBel := hid hbel
    clear hc hbel z9 m0 m1 m2 m3 m4
    go_wp2_with fail
    go_loop [12, 13] (fun t i => ∃ k : Nat, k ≤ l.length ∧ i = .int .i64 k ∧ t = .string (joinB (l.take k))) (fun _ i => l.length - (intOf i).toNat)
    case atStart => exact ⟨0, Nat.zero_le _, rfl, rfl⟩
    case round =>
      obtain ⟨k, hk, rfl, rfl⟩ := hrel
      by_cases hlt : k < l.length
      · have hcell := HC.out k hlt
        have hq1 := (HS.out _ (getD_mem hlt)).1
        have hq3 := pos_of_not_emp _ (HS.out _ (getD_mem hlt)).2
        have hjs := joinB_take_size l k hkl (fun q hq => (HS.out q hq).1)
        have HN : Hid (joinB (l.take (k + 1)) = joinB (l.take k) ++ l.getD k ByteArray.empty) := by
          show joinB (l.take (k + 1)) = _
          rw [take_succ_getD l k hlt, joinB_snoc]
        generalize l.getD k ByteArray.empty = q at hcell hq1 hq3 HN
        generalize joinB (l.take k) = jn at hjs HN ⊢
        go_wp2
        go_round
        case rel => exact ⟨k + 1, by omega, by go_num, by rw [HN.out]⟩
        case measure => simp [intOf]; omega
      · obtain rfl : k = l.length := by omega
        rw [List.take_of_length_le (Nat.le_refl _)]
        generalize joinB l = jn at HJ ⊢
        go_wp2_with fail
        go_loop [14, 15] (fun t i => ∃ k : Nat, k ≤ 5 ∧ i = .int .i64 k ∧ t = .int .i64 (keep ([a0, a1, a2, a3, a4].take k)).length) (fun _ i => 5 - (intOf i).toNat)
        case atStart => exact ⟨0, Nat.zero_le _, rfl, rfl⟩
        case round =>
          obtain ⟨k, hk5, rfl, rfl⟩ := hrel
          by_cases hlt5 : k < 5
          · have hcl := keep_len [a0, a1, a2, a3, a4] k
            have HP := hid (pick5_eq a0 a1 a2 a3 a4 k hlt5)
            have HT := hid (take_succ_getD [a0, a1, a2, a3, a4] k (by simpa using hlt5))
            have HY := hid (keep_snoc_yes ([a0, a1, a2, a3, a4].take k) ([a0, a1, a2, a3, a4].getD k ByteArray.empty))
            have HN := hid (keep_snoc_no ([a0, a1, a2, a3, a4].take k) ([a0, a1, a2, a3, a4].getD k ByteArray.empty))
            generalize [a0, a1, a2, a3, a4].getD k ByteArray.empty = q at HP HT HY HN
            by_cases hq : 0 < q.size
            · have he : emp q = false := by rw [emp_size, decide_eq_false_iff_not]; omega
              go_wp2_with (go_at_call 12; refine (sqlAt12 _ _ _ _ _ _ _).mono ?_; rw [HP.out]; rintro e w' ⟨rfl, rfl⟩)
              go_round
              case rel => exact ⟨k + 1, by omega, by go_num, by rw [HT.out, HY.out he]; simp⟩
              case measure => simp [intOf]; omega
            · have he : emp q = true := by rw [emp_size, decide_eq_true_iff]; omega
              go_wp2_with (go_at_call 12; refine (sqlAt12 _ _ _ _ _ _ _).mono ?_; rw [HP.out]; rintro e w' ⟨rfl, rfl⟩)
              go_round
              case rel => exact ⟨k + 1, by omega, by go_num, by rw [HT.out, HN.out he]⟩
              case measure => simp [intOf]; omega
          · obtain rfl : k = 5 := by omega
            rw [show keep ([a0, a1, a2, a3, a4].take 5) = l from HL.out.symm]
            obtain rfl : jn = _ := HJ.out
            go_wp2
            go_ret
            exact ⟨by simp, HBel.out⟩
end Go.Proofs.Qxb6603650a
