import Derived.Test.Qxb6603650aBase
import Derived.Test.Qxb6603650aMem
namespace Go.Proofs.Qxb6603650a
open Go.ChangeShapes Go.WideShapes Go.ChangeAt Go.RowKit

/-- The text is empty. -/
def emp (q : ByteArray) : Bool := q.toList.isEmpty

def strs (l : List ByteArray) : List Value := l.map Value.string

theorem strs_getElem? (l : List ByteArray) (j : Nat) (h : j < l.length) : (strs l)[j]? = some (.string (l.getD j ByteArray.empty)) := by
  simp [strs, List.getD, h]

set_option maxHeartbeats 1000000 in
theorem indexFunc17 (ss : List ByteArray) (g cap e : Nat) (w : World) (hl : ss.length ≤ maxLen) (hb : Blk w g e (strs ss)) :
    Calls Try.prog 17 #[.slice (some ⟨g, 0, none⟩) ss.length cap, .func (.func 16) #[] #[]] w fun e w' =>
      ((∃ k : Nat, k < ss.length ∧ e = .returned (.int .i64 k) ∧ emp (ss.getD k ByteArray.empty) = true ∧ ∀ j, j < k → emp (ss.getD j ByteArray.empty) = false) ∨
       (e = .returned (.int .i64 (-1)) ∧ ∀ j, j < ss.length → emp (ss.getD j ByteArray.empty) = false)) ∧ w' = w := by
  unfold maxLen at hl
  have HB : Hid (Blk w g e (strs ss)) := hb
  clear hb
  go_enter Try.func17, Try.ntmps17
  go_wp2
  go_loop [8] (fun i => ∃ k : Nat, k ≤ ss.length ∧ i = .int .i64 k ∧ Hid (∀ j, j < k → emp (ss.getD j ByteArray.empty) = false)) (fun i => ss.length - (intOf i).toNat)
  case atStart => exact ⟨0, Nat.zero_le _, rfl, fun j hj => absurd hj (Nat.not_lt_zero _)⟩
  case round =>
    obtain ⟨k, hk, rfl, hbef⟩ := hrel
    by_cases hlt : k < ss.length
    · have hcell : w.cell? ⟨g, k, none⟩ = some (.string (ss.getD k ByteArray.empty)) := by rw [HB.out.cell, strs_getElem? _ _ hlt]
      generalize hq : ss.getD k ByteArray.empty = q at hcell
      have HQ : Hid (ss.getD k ByteArray.empty = q) := hq
      clear hq
      cases he : emp q with
      | true =>
        have he' : q.toList.isEmpty = true := he
        go_wp2_with (go_at_call 16; refine (closure16 _ _).mono ?_; rintro e w' ⟨rfl, rfl⟩)
        go_ret
        refine ⟨Or.inl ⟨k, hlt, rfl, ?_, hbef⟩, rfl⟩
        rw [HQ.out]; exact he
      | false =>
        have he' : q.toList.isEmpty = false := he
        go_wp2_with (go_at_call 16; refine (closure16 _ _).mono ?_; rintro e w' ⟨rfl, rfl⟩)
        go_round
        case rel =>
          refine ⟨k + 1, by omega, by go_num, fun j hj => ?_⟩
          by_cases hj' : j < k
          · exact hbef j hj'
          · obtain rfl : j = k := by omega
            rw [HQ.out]; exact he
        case measure => simp [intOf]; omega
    · obtain rfl : k = ss.length := by omega
      go_wp2
      go_ret
      exact ⟨Or.inr ⟨rfl, hbef⟩, rfl⟩

/-- What DeleteFunc keeps. -/
def keep (ss : List ByteArray) : List ByteArray := ss.filter fun q => !emp q

/-- The state of DeleteFunc's row after j texts were looked at and i kept. -/
structure Mid (ss cur : List ByteArray) (i j : Nat) : Prop where
  len : cur.length = ss.length
  ij : i < j
  jn : j ≤ ss.length
  low : cur.take i = keep (ss.take j)
  high : ∀ t, j ≤ t → cur.getD t ByteArray.empty = ss.getD t ByteArray.empty

theorem take_succ_getD (ss : List ByteArray) (j : Nat) (h : j < ss.length) : ss.take (j + 1) = ss.take j ++ [ss.getD j ByteArray.empty] := by
  rw [List.take_succ_eq_append_getElem h]; simp [List.getD, h]

theorem keep_all (ss : List ByteArray) (k : Nat) (hk : k ≤ ss.length) (h : ∀ j, j < k → emp (ss.getD j ByteArray.empty) = false) : keep (ss.take k) = ss.take k := by
  unfold keep
  apply List.filter_eq_self.2
  intro q hq
  obtain ⟨j, hj, rfl⟩ := List.mem_iff_getElem.1 hq
  have hj' : j < k := by have := hj; simp at this; omega
  have := h j hj'
  rw [List.getElem_take]
  simp only [List.getD, List.getElem?_eq_getElem (show j < ss.length by omega), Option.getD_some] at this
  simp [this]

theorem keep_snoc_no (l : List ByteArray) (q : ByteArray) (h : emp q = true) : keep (l ++ [q]) = keep l := by
  simp [keep, List.filter_append, h]
theorem keep_snoc_yes (l : List ByteArray) (q : ByteArray) (h : emp q = false) : keep (l ++ [q]) = keep l ++ [q] := by
  simp [keep, List.filter_append, h]

theorem Mid.start {ss : List ByteArray} {k : Nat} (hk : k < ss.length) (he : emp (ss.getD k ByteArray.empty) = true) (h : ∀ j, j < k → emp (ss.getD j ByteArray.empty) = false) : Mid ss ss k (k + 1) := by
  refine ⟨rfl, by omega, by omega, ?_, fun _ _ => rfl⟩
  rw [take_succ_getD ss k hk, keep_snoc_no _ _ he, keep_all ss k (by omega) h]

theorem Mid.skip {ss cur : List ByteArray} {i j : Nat} (m : Mid ss cur i j) (hj : j < ss.length) (he : emp (ss.getD j ByteArray.empty) = true) : Mid ss cur i (j + 1) := by
  refine ⟨m.len, by have := m.ij; omega, by omega, ?_, fun t ht => m.high t (by omega)⟩
  rw [take_succ_getD ss j hj, m.low, keep_snoc_no _ _ he]

theorem Mid.take {ss cur : List ByteArray} {i j : Nat} (m : Mid ss cur i j) (hj : j < ss.length) (he : emp (ss.getD j ByteArray.empty) = false) : Mid ss (cur.set i (ss.getD j ByteArray.empty)) (i + 1) (j + 1) := by
  have hij := m.ij
  have hil : i < cur.length := by rw [m.len]; omega
  refine ⟨by simp [m.len], by omega, by omega, ?_, fun t ht => ?_⟩
  · rw [take_succ_getD ss j hj]
    have h1 : (cur.set i (ss.getD j ByteArray.empty)).take (i + 1) = cur.take i ++ [ss.getD j ByteArray.empty] := by
      rw [List.take_succ_eq_append_getElem (by simpa using hil)]
      simp [List.take_set_of_le]
    rw [h1, m.low, keep_snoc_yes _ _ he]
  · rw [← m.high t (by omega)]
    simp only [List.getD]
    rw [List.getElem?_set_ne (by omega)]

theorem strs_set (l : List ByteArray) (i : Nat) (q : ByteArray) : (strs l).set i (.string q) = strs (l.set i q) := by
  simp [strs, List.map_set]

theorem keep_cell {ss cur : List ByteArray} {i n : Nat} (hlow : cur.take i = keep ss) (hn : n < i) : cur.getD n ByteArray.empty = (keep ss).getD n ByteArray.empty := by
  rw [← hlow]
  simp [List.getD, hn]

theorem zero9 (w : World) : (zeroValue 9).run Try.prog w = .ok (.string ByteArray.empty) w := by kernel_rfl

set_option maxHeartbeats 2000000 in
theorem deleteFunc15 (ss : List ByteArray) (g cap B : Nat) (w : World) (hl : ss.length ≤ maxLen) (hcap : ss.length ≤ cap) (hb : Blk w g 9 (strs ss)) (hB : B ≤ g) :
    Calls Try.prog 15 #[.slice (some ⟨g, 0, none⟩) ss.length cap, .func (.func 16) #[] #[]] w fun e w' =>
      e = .returned (.slice (some ⟨g, 0, none⟩) (keep ss).length cap) ∧ (∀ j, j < (keep ss).length → w'.cell? ⟨g, j, none⟩ = some (.string ((keep ss).getD j ByteArray.empty))) ∧ Below B w w' := by
  have hl' := hl
  unfold maxLen at hl
  have HB : Hid (Blk w g 9 (strs ss)) := hb
  clear hb
  go_enter Try.func15, Try.ntmps15
  go_wp2_with fail
  refine (indexFunc17 ss g cap 9 w hl' HB.out).mono ?_
  rintro e w' ⟨⟨k0, hk0, rfl, hk, hbef⟩ | ⟨rfl, hall⟩, rfl⟩
  · have M0 : Hid (Mid ss ss k0 (k0 + 1)) := Mid.start hk0 hk hbef
    clear hk hbef
    have hne1 : ((k0 : Int) == -1) = false := beq_eq_false_iff_ne.2 (by omega)
    go_wp2_with fail
    go_loopw [5, 6] (fun s5 s6 wr => ∃ (i j : Nat) (cur : List ByteArray), s5 = .int .i64 i ∧ s6 = .int .i64 j ∧ Hid (Mid ss cur i j) ∧ Hid (Blk wr g 9 (strs cur)) ∧ Below B w' wr) (fun _ s6 _ => ss.length - (intOf s6).toNat)
    case atStart => exact ⟨k0, k0 + 1, ss, rfl, by go_num, M0, HB, Below.refl _ _⟩
    case round =>
      obtain ⟨i, j, cur, rfl, rfl, M, HBr, hbel⟩ := hrel
      have hij := M.out.ij
      have hjn := M.out.jn
      have hlen := M.out.len
      by_cases hlt : j < ss.length
      · have hcj : wr.cell? ⟨g, j, none⟩ = some (.string (ss.getD j ByteArray.empty)) := by
          rw [HBr.out.cell, strs_getElem? _ _ (by omega), M.out.high j (Nat.le_refl _)]
        have hci : wr.cell? ⟨g, i, none⟩ = some (.string (cur.getD i ByteArray.empty)) := by rw [HBr.out.cell, strs_getElem? _ _ (by omega)]
        have hfi := HBr.out.frozen i
        have Hlen : Hid (cur.length = ss.length) := hlen
        clear hlen
        generalize hq : ss.getD j ByteArray.empty = q at hcj
        generalize cur.getD i ByteArray.empty = old at hci
        have HQ : Hid (ss.getD j ByteArray.empty = q) := hq
        clear hq
        cases he : emp q with
        | true =>
          have he' : q.toList.isEmpty = true := he
          go_wp2_with (go_at_call 16; refine (closure16 _ _).mono ?_; rintro e w'' ⟨rfl, rfl⟩)
          go_roundw
          case rel => exact ⟨i, j + 1, cur, rfl, by go_num, M.out.skip hlt (by rw [HQ.out]; exact he), HBr, hbel⟩
          case measure => simp [intOf]; omega
        | false =>
          have he' : q.toList.isEmpty = false := he
          go_wp2_with (go_at_call 16; refine (closure16 _ _).mono ?_; rintro e w'' ⟨rfl, rfl⟩)
          go_roundw
          case rel =>
            refine ⟨i + 1, j + 1, cur.set i q, by go_num, by go_num, ?_, ?_, hbel.setCell (p := ⟨g, i, none⟩) hB _⟩
            · have := M.out.take hlt (by rw [HQ.out]; exact he)
              rwa [HQ.out] at this
            · have := HBr.out.set i (.string q)
              rwa [strs_set] at this
          case measure => simp [intOf]; omega
      · obtain rfl : j = ss.length := by omega
        have hcl : ∀ ty, (Builtin.clear_ #[25] ty #[.slice (some ⟨g, i, none⟩) (ss.length - i) (cap - i)]).run Try.prog wr = .ok (.tuple #[]) (wr.setCells g i (List.replicate (ss.length - i) (.string ByteArray.empty))) :=
          fun ty => by
            have := Lib.run_clear_slice (P := Try.prog) wr 25 9 ty (.string ByteArray.empty) Try.underlying25 zero9 rfl rfl g i (ss.length - i) (cap - i) (by omega)
              (fun t ht => by rw [HBr.out.cell, strs_getElem? _ _ (by omega)]; rfl) (fun t _ => HBr.out.frozen _)
            exact this
        have Hlen : Hid (cur.length = ss.length) := hlen
        clear hlen
        go_wp2
        go_ret
        have hlow := M.out.low
        rw [List.take_of_length_le (Nat.le_refl _)] at hlow
        have hki : (keep ss).length = i := by rw [← hlow, List.length_take]; have := Hlen.out; omega
        refine ⟨?_, fun n hn => ?_, Below.setCells hB _ _ _ hbel⟩
        · rw [hki]; rfl
        · rw [hki] at hn
          rw [World.cell?_setCells_out _ _ _ _ _ (fun _ _ => Or.inl hn), HBr.out.cell, strs_getElem? _ _ (by have := Hlen.out; omega), keep_cell hlow hn]
  · have hk : keep ss = ss := by
      have := keep_all ss ss.length (Nat.le_refl _) hall
      rwa [List.take_of_length_le (Nat.le_refl _)] at this
    have HK : Hid (keep ss = ss) := hk
    clear hk hall
    go_wp2
    go_ret
    rw [HK.out]
    exact ⟨rfl, fun j hj => by rw [HB.out.cell, strs_getElem? _ _ hj], Below.refl _ _⟩
end Go.Proofs.Qxb6603650a
