import Derived.Test.Qxb6603742aRead
namespace Go.Proofs.Qxb6603742a
open Go.ChangeShapes Go.WideShapes Go.ChangeAt Go.RowKit

theorem isNaN35 (x : Int) (w : World) : Calls Try.prog 35 #[.int .u64 x] w fun e w' => e = .returned (.bool false) ∧ w' = w := by
  go_enter Try.func35, Try.ntmps35
  go_wp2
  go_ret
  exact ⟨rfl, rfl⟩

/-- cmp.Compare's answer. -/
def cmpI (x y : Int) : Int := if x < y then -1 else if y < x then 1 else 0

theorem cmp34 (x y : Int) (w : World) : Calls Try.prog 34 #[.int .u64 x, .int .u64 y] w fun e w' => e = .returned (.int .i64 (cmpI x y)) ∧ w' = w := by
  unfold cmpI
  by_cases h1 : x < y
  · rw [if_pos h1]
    go_enter Try.func34, Try.ntmps34
    go_wp2_with (go_at_call 35; refine (isNaN35 _ _).mono ?_; rintro e w' ⟨rfl, rfl⟩)
    go_ret
    exact ⟨rfl, rfl⟩
  · rw [if_neg h1]
    by_cases h2 : y < x
    · rw [if_pos h2]
      go_enter Try.func34, Try.ntmps34
      go_wp2_with (go_at_call 35; refine (isNaN35 _ _).mono ?_; rintro e w' ⟨rfl, rfl⟩)
      go_ret
      exact ⟨rfl, rfl⟩
    · rw [if_neg h2]
      go_enter Try.func34, Try.ntmps34
      go_wp2_with (go_at_call 35; refine (isNaN35 _ _).mono ?_; rintro e w' ⟨rfl, rfl⟩)
      go_ret
      exact ⟨rfl, rfl⟩

set_option maxHeartbeats 2000000 in
theorem compare32 (a b : Option Addr) (ca cb : Nat) (xs ys : List Int) (w : World) (hx : xs.length ≤ maxLen) (hy : ys.length ≤ maxLen) (hA : Cells w a xs.length (uv xs)) (hB : Cells w b ys.length (uv ys)) :
    Calls Try.prog 32 #[.slice a xs.length ca, .slice b ys.length cb] w fun e w' => e = .returned (.int .i64 (cmpL xs ys)) ∧ w' = w := by
  unfold maxLen at hx hy
  have HA := hid hA
  have HB := hid hB
  clear hA hB
  go_enter Try.func32, Try.ntmps32
  go_wp2_with fail
  go_loop [11] (fun i => ∃ k : Nat, k ≤ xs.length ∧ k ≤ ys.length ∧ i = .int .i64 k ∧ Hid (cmpL xs ys = cmpL (xs.drop k) (ys.drop k))) (fun i => xs.length - (intOf i).toNat)
  case atStart => exact ⟨0, Nat.zero_le _, Nat.zero_le _, rfl, rfl⟩
  case round =>
    obtain ⟨k, hk, hk2, rfl, hcmp⟩ := hrel
    by_cases hlt : k < xs.length
    · obtain ⟨g1, o1, rfl, hc1⟩ := HA.out (by omega)
      have e1 := hc1 k (by omega)
      unfold uv at e1
      clear hc1
      by_cases hlt2 : k < ys.length
      · obtain ⟨g2, o2, rfl, hc2⟩ := HB.out (by omega)
        have e2 := hc2 k (by omega)
        unfold uv at e2
        have HS := hid (cmpL_step (xs := xs) (ys := ys) hlt hlt2)
        clear hc2
        generalize xs.getD k 0 = x at e1 HS
        generalize ys.getD k 0 = y at e2 HS
        by_cases h1 : x < y
        · have hc : cmpI x y = -1 := by unfold cmpI; rw [if_pos h1]
          go_wp2_with (go_at_call 34; refine (cmp34 _ _ _).mono ?_; rw [hc]; rintro e w' ⟨rfl, rfl⟩)
          go_ret
          exact ⟨by rw [hcmp.out, HS.out, if_pos h1]; rfl, rfl⟩
        · by_cases h2 : y < x
          · have hc : cmpI x y = 1 := by unfold cmpI; rw [if_neg h1, if_pos h2]
            go_wp2_with (go_at_call 34; refine (cmp34 _ _ _).mono ?_; rw [hc]; rintro e w' ⟨rfl, rfl⟩)
            go_ret
            exact ⟨by rw [hcmp.out, HS.out, if_neg (by omega), if_pos h2]; rfl, rfl⟩
          · have hc : cmpI x y = 0 := by unfold cmpI; rw [if_neg h1, if_neg h2]
            go_wp2_with (go_at_call 34; refine (cmp34 _ _ _).mono ?_; rw [hc]; rintro e w' ⟨rfl, rfl⟩)
            go_round
            case rel => exact ⟨k + 1, by omega, by omega, by go_num, by show _ = _; rw [hcmp.out, HS.out, if_neg (by omega), if_neg (by omega)]⟩
            case measure => simp [intOf]; omega
      · have HE := hid (cmpL_end (xs := xs) (ys := ys) (k := k) (.inr (by omega)) (by omega) (by omega))
        generalize xs.getD k 0 = x at e1
        go_wp2
        go_ret
        exact ⟨by rw [hcmp.out, HE.out, if_neg (by omega), if_pos (by omega)]; rfl, rfl⟩
    · obtain rfl : k = xs.length := by omega
      have HE := hid (cmpL_end (xs := xs) (ys := ys) (k := xs.length) (.inl (Nat.le_refl _)) (by omega) (by omega))
      by_cases h1 : xs.length < ys.length
      · go_wp2
        go_ret
        exact ⟨by rw [hcmp.out, HE.out, if_pos h1]; rfl, rfl⟩
      · go_wp2
        go_ret
        exact ⟨by rw [hcmp.out, HE.out, if_neg (by omega), if_neg (by omega)]; rfl, rfl⟩

set_option maxHeartbeats 2000000 in
theorem equal33 (a b : Option Addr) (ca cb : Nat) (xs ys : List Int) (w : World) (hx : xs.length ≤ maxLen) (hA : Cells w a xs.length (uv xs)) (hB : Cells w b ys.length (uv ys)) :
    Calls Try.prog 33 #[.slice a xs.length ca, .slice b ys.length cb] w fun e w' => e = .returned (.bool (decide (xs = ys))) ∧ Drawn w w' := by
  unfold maxLen at hx
  have HA := hid hA
  have HB := hid hB
  clear hA hB
  by_cases hl : xs.length = ys.length
  · have hl1 : xs.length ≤ ys.length := by omega
    have hl2 : ys.length ≤ xs.length := by omega
    have HL := hid hl
    clear hl
    go_enter Try.func33, Try.ntmps33
    go_wp2_with fail
    go_loopw [13] (fun i wr => ∃ k : Nat, k ≤ xs.length ∧ i = .int .i64 k ∧ Hid (Drawn w wr) ∧ Hid (xs.drop k = ys.drop k → xs = ys)) (fun i _ => xs.length - (intOf i).toNat)
    case atStart => exact ⟨0, Nat.zero_le _, rfl, Drawn.refl _, fun h => by simpa using h⟩
    case round =>
      obtain ⟨k, hk, rfl, hdr, heq⟩ := hrel
      obtain ⟨q0, rfl⟩ := hdr.out
      by_cases hlt : k < xs.length
      · obtain ⟨g1, o1, rfl, hc1⟩ := HA.out (by omega)
        obtain ⟨g2, o2, rfl, hc2⟩ := HB.out (by omega)
        have e1 := hc1 k (by omega)
        have e2 := hc2 k (by omega)
        unfold uv at e1 e2
        have HS := hid (eq_step (xs := xs) (ys := ys) hlt (by omega))
        have HNE := hid (ne_step (xs := xs) (ys := ys) (k := k))
        clear hc1 hc2
        generalize xs.getD k 0 = x at e1 HS HNE
        generalize ys.getD k 0 = y at e2 HS HNE
        have hz1 : (k : Int) < (xs.length : Int) := by omega
        have hz2 : (k : Int) < (ys.length : Int) := by omega
        by_cases h1 : x = y
        · subst h1
          have HS2 := hid (HS.out rfl)
          clear HS HNE
          go_wp2
          go_quiet (fail)
          go_wp2
          go_roundw
          case rel => exact ⟨k + 1, by omega, by go_num, ⟨_, rfl⟩, fun h => heq.out (HS2.out.2 h)⟩
          case measure => simp [intOf]; omega
        · have hb : (x != y) = true := by simp [h1]
          have HH := hid (HNE.out h1)
          clear h1
          go_wp2
          go_quiet (fail)
          go_wp2
          go_ret
          exact ⟨by rw [decide_eq_false HH.out]; rfl, hdr.out.drewN _⟩
      · have HE : Hid (xs = ys) := heq.out (by rw [List.drop_eq_nil_of_le (by omega), List.drop_eq_nil_of_le (by omega)])
        go_wp2
        go_ret
        exact ⟨by rw [decide_eq_true HE.out]; rfl, hdr.out⟩
  · have HH : Hid (xs ≠ ys) := fun h => hl (by rw [h])
    have hb : ((xs.length : Int) != (ys.length : Int)) = true := by simp; omega
    go_enter Try.func33, Try.ntmps33
    go_wp2
    go_ret
    exact ⟨by rw [decide_eq_false HH.out]; rfl, Drawn.refl _⟩
end Go.Proofs.Qxb6603742a
