import Derived.Test.Qxb6603650aModel
namespace Go.Proofs.Qxb6603650a
open Go.ChangeShapes Go.WideShapes Go.ChangeAt Go.RowKit

set_option maxHeartbeats 2000000 in
theorem model10 (a0 a1 a2 a3 a4 : ByteArray) (w : World) :
    Calls Try.prog 10 #[.string a0, .string a1, .string a2, .string a3, .string a4] w fun e w' =>
      e = .returned (.slice (some ⟨w.heap.size, 0, none⟩) (keep [a0, a1, a2, a3, a4]).length 5) ∧
      (∀ j, j < (keep [a0, a1, a2, a3, a4]).length → w'.cell? ⟨w.heap.size, j, none⟩ = some (.string ((keep [a0, a1, a2, a3, a4]).getD j ByteArray.empty))) ∧ Below w.heap.size w w' := by
  obtain ⟨i9, hi, hz0, hz1, hz2⟩ := info_parts info9
  go_enter Try.func10, Try.ntmps10
  go_wp2_with (at_make; refine wpList_make_own _ rfl _ _ 25 rfl w.heap.size 9 i9 (.string ByteArray.empty) 1 Try.underlying25 hi hz0 hz1 _ _ _ 5 rfl rfl (by decide) (by rw [hz2]; decide) (by simp [maxLen]) (Nat.le_refl _) ?_)
  intro w1 hown hgrow
  have hb1 := (Below.refl w.heap.size w).grown hgrow (Nat.le_refl _) (fun k hk => by cases hk)
  have HO := hid hown
  have HB := hid hb1
  clear hown hgrow hb1
  go_wp2_with fail
  go_loopw [11, 12] (fun v i wr => ∃ k : Nat, k ≤ 5 ∧ i = .int .i64 k ∧ v = .slice (some ⟨w.heap.size, 0, none⟩) (keep ([a0, a1, a2, a3, a4].take k)).length 5 ∧
      wr.ownsRow w.heap.size 9 1 v (keep ([a0, a1, a2, a3, a4].take k)).length (strs (keep ([a0, a1, a2, a3, a4].take k))) ∧ Hid (Below w.heap.size w wr)) (fun _ i _ => 5 - (intOf i).toNat)
  case atStart => exact ⟨0, Nat.zero_le _, rfl, rfl, HO.out, HB⟩
  case round =>
    obtain ⟨k, hk5, rfl, rfl, hown, hbel⟩ := hrel
    by_cases hlt5 : k < 5
    · have hcl := keep_len [a0, a1, a2, a3, a4] k
      have HP := hid (pick5_eq a0 a1 a2 a3 a4 k hlt5)
      have HT := hid (take_succ_getD [a0, a1, a2, a3, a4] k (by simpa using hlt5))
      have HY := hid (keep_snoc_yes ([a0, a1, a2, a3, a4].take k) ([a0, a1, a2, a3, a4].getD k ByteArray.empty))
      have HN := hid (keep_snoc_no ([a0, a1, a2, a3, a4].take k) ([a0, a1, a2, a3, a4].getD k ByteArray.empty))
      generalize [a0, a1, a2, a3, a4].getD k ByteArray.empty = q at HP HT HY HN
      generalize hl : keep ([a0, a1, a2, a3, a4].take k) = l at hcl hown HY HN
      have HO := hid hown
      have HL := hid hl
      clear hown hl
      by_cases hq : 0 < q.size
      · have he : emp q = false := by rw [emp_size, decide_eq_false_iff_not]; omega
        go_wp2_with (first
          | (go_at_call 12; refine (sqlAt12 _ _ _ _ _ _ _).mono ?_; rw [HP.out]; rintro e w' ⟨rfl, rfl⟩)
          | (at_builtin; refine wpList_append_fits _ rfl _ _ 25 rfl w.heap.size 9 i9 1 Try.underlying25 hi hz1 w.heap.size l.length 5 (strs l) rfl (HO.out.alloc _) ⟨_, 0, none⟩ 1 1 [.string q] rfl rfl ?c1 ?c2 ?c3 ?_))
        case c1 =>
          intro j u hj
          match j, hj with
          | 0, hj => simp at hj; subst hj; simp [Addr.add]
        case c2 => intro u hu; simp at hu; subst hu; rfl
        case c3 => omega
        intro w2 hown2 hgrow2
        have hb2 : Below w.heap.size w w2 := (hbel.out.alloc (hbel.out.size) _).grown hgrow2 (Nat.le_trans hbel.out.size (by simp)) (fun k hk => by simp at hk; omega)
        have HB2 := hid hb2
        have HO2 := hid hown2
        clear hb2 hown2 hgrow2
        go_wp2
        go_roundw
        case rel => exact ⟨k + 1, by omega, by go_num, by rw [HT.out, HY.out he]; simp, by rw [HT.out, HY.out he]; simpa [strs] using HO2.out, HB2⟩
        case measure => simp [intOf]; omega
      · have he : emp q = true := by rw [emp_size, decide_eq_true_iff]; omega
        go_wp2_with (go_at_call 12; refine (sqlAt12 _ _ _ _ _ _ _).mono ?_; rw [HP.out]; rintro e w' ⟨rfl, rfl⟩)
        go_roundw
        case rel => exact ⟨k + 1, by omega, by go_num, by rw [HT.out, HN.out he], by rw [HT.out, HN.out he]; exact HO.out, hbel⟩
        case measure => simp [intOf]; omega
    · obtain rfl : k = 5 := by omega
      rw [show ([a0, a1, a2, a3, a4].take 5) = [a0, a1, a2, a3, a4] from rfl] at hown ⊢
      generalize hl : keep [a0, a1, a2, a3, a4] = l at hown ⊢
      have HO := hid hown
      have HL := hid hl
      clear hown hl
      go_wp2
      go_ret
      rw [HL.out]
      exact ⟨rfl, fun j hj => by rw [HO.out.cellAt j (by omega), strs_getElem? _ _ hj], hbel.out⟩

set_option maxHeartbeats 2000000 in
theorem keeps_main (a0 a1 a2 a3 a4 : ByteArray) (h0 : a0.size ≤ 65536) (h1 : a1.size ≤ 65536) (h2 : a2.size ≤ 65536) (h3 : a3.size ≤ 65536) (h4 : a4.size ≤ 65536) (w : World) :
    Calls Try.prog 4 #[.string a0, .string a1, .string a2, .string a3, .string a4] w fun e w' => e = .returned (.bool true) ∧ Below w.heap.size w w' := by
  have m0 : a0.size ≤ maxLen := by unfold maxLen; omega
  have m1 : a1.size ≤ maxLen := by unfold maxLen; omega
  have m2 : a2.size ≤ maxLen := by unfold maxLen; omega
  have m3 : a3.size ≤ maxLen := by unfold maxLen; omega
  have m4 : a4.size ≤ maxLen := by unfold maxLen; omega
  have z9 := hid (zzcalls9 a0 a1 a2 a3 a4 w)
  have z10 := hid (model10 a0 a1 a2 a3 a4)
  have hkl : (keep [a0, a1, a2, a3, a4]).length ≤ 5 := List.length_filter_le _ _
  generalize keep [a0, a1, a2, a3, a4] = l at z9 z10 hkl
  go_enter Try.func4, Try.ntmps4
  go_wp2_with fail
  refine (bytes8 a0 a1 a2 a3 a4 m0 m1 m2 m3 m4 w).mono ?_
  rintro e w' ⟨⟨b, rfl⟩, rfl⟩
  clear m0 m1 m2 m3 m4
  cases b with
  | false =>
    go_wp2
    go_ret
    exact ⟨rfl, Below.refl _ _⟩
  | true =>
    go_wp2_with fail
    refine z9.out.mono ?_
    rintro e w1 ⟨rfl, hc1, hb1, hs1⟩
    have C1 := hid hc1
    have B1 := hid hb1
    clear hc1 hb1
    go_wp2_with fail
    refine (z10.out w1).mono ?_
    rintro e w2 ⟨rfl, hc2, hb2⟩
    have C2 := hid hc2
    have B2 := hid hb2
    clear hc2 hb2 z9 z10
    have C1' : Hid (∀ j, j < l.length → w2.cell? ⟨w'.heap.size + 1, j, none⟩ = some (.string (l.getD j ByteArray.empty))) := fun j hj => by
      rw [B2.out.cell (p := ⟨w'.heap.size + 1, j, none⟩) (by show w'.heap.size + 1 < _; omega)]
      exact C1.out j hj
    have BB : Hid (Below w'.heap.size w' w2) := B1.out.trans (B2.out.mono (by omega))
    clear C1 B1 B2
    go_wp2_with fail
    go_loopw [13] (fun i wr => ∃ k : Nat, k ≤ l.length ∧ i = .int .i64 k ∧ ∃ n, wr = w2.drewN n) (fun i _ => l.length - (intOf i).toNat)
    case atStart => exact ⟨0, Nat.zero_le _, rfl, 0, rfl⟩
    case round =>
      obtain ⟨k, hk, rfl, n, rfl⟩ := hrel
      by_cases hlt : k < l.length
      · have g1 := C1'.out k hlt
        have g2 := C2.out k hlt
        generalize l.getD k ByteArray.empty = q at g1 g2
        have hlz : (k : Int) < (l.length : Int) := by omega
        go_wp2
        go_quiet (fail)
        go_wp2
        go_roundw
        case rel => exact ⟨k + 1, by omega, by go_num, _, rfl⟩
        case measure => simp [intOf]; omega
      · obtain rfl : k = l.length := by omega
        go_wp2
        go_ret
        exact ⟨rfl, Below.drewN BB.out n⟩
end Go.Proofs.Qxb6603650a
