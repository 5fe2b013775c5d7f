import Derived.Test.Qxb6603742aRows
import Derived.Test.Qxb6603742aMem
import Derived.WalkSpells
namespace Go.Proofs.Qxb6603742a
open Go.ChangeShapes Go.WideShapes Go.ChangeAt Go.RowKit

set_option maxHeartbeats 2000000 in
theorem cmpWords15 (a b : Option Addr) (ca cb : Nat) (xs ys : List Int) (w : World) (hx : xs.length ≤ maxLen) (hy : ys.length ≤ maxLen) (hA : Cells w a xs.length (uv xs)) (hB : Cells w b ys.length (uv ys)) :
    Calls Try.prog 15 #[.slice a xs.length ca, .slice b ys.length cb] w fun e w' => e = .returned (.int .i64 (cmpL xs ys)) ∧ Drawn w w' := by
  unfold maxLen at hx hy
  have HA := hid hA
  have HB := hid hB
  clear hA hB
  obtain ⟨n, hn⟩ : ∃ n, n = if ys.length < xs.length then ys.length else xs.length := ⟨_, rfl⟩
  have hn1 : n ≤ xs.length := by rw [hn]; split <;> omega
  have hn2 : n ≤ ys.length := by rw [hn]; split <;> omega
  have hn3 : xs.length ≤ n ∨ ys.length ≤ n := by rw [hn]; split <;> omega
  have HN3 := hid hn3
  clear hn3
  by_cases hl : ys.length < xs.length
  · rw [if_pos hl] at hn
    subst hn
    go_enter Try.func15, Try.ntmps15
    go_wp2_with fail
    go_loopw [6] (fun i wr => ∃ k : Nat, k ≤ ys.length ∧ i = .int .i64 k ∧ Hid (Drawn w wr) ∧ Hid (cmpL xs ys = cmpL (xs.drop k) (ys.drop k))) (fun i _ => ys.length - (intOf i).toNat)
    case atStart => exact ⟨0, Nat.zero_le _, rfl, Drawn.refl _, rfl⟩
    case round =>
      obtain ⟨k, hk, rfl, hdr, hcmp⟩ := hrel
      obtain ⟨q0, rfl⟩ := hdr.out
      by_cases hlt : k < ys.length
      · obtain ⟨g1, o1, rfl, hc1⟩ := HA.out (by omega)
        obtain ⟨g2, o2, rfl, hc2⟩ := HB.out (by omega)
        have e1 := hc1 k (by omega)
        have e2 := hc2 k (by omega)
        unfold uv at e1 e2
        have HS := hid (cmpL_step (xs := xs) (ys := ys) (by omega) hlt)
        clear hc1 hc2
        generalize xs.getD k 0 = x at e1 HS
        generalize ys.getD k 0 = y at e2 HS
        have hz1 : (k : Int) < (xs.length : Int) := by omega
        have hz2 : (k : Int) < (ys.length : Int) := by omega
        by_cases h1 : x < y
        · go_wp2
          go_quiet (fail)
          go_wp2
          go_ret
          exact ⟨by rw [hcmp.out, HS.out, if_pos h1]; rfl, hdr.out.drewN _⟩
        · by_cases h2 : y < x
          · go_wp2
            go_quiet (fail)
            go_wp2
            go_quiet (fail)
            go_wp2
            go_ret
            exact ⟨by rw [hcmp.out, HS.out, if_neg (by omega), if_pos h2]; rfl, (hdr.out.drewN _).drewN _⟩
          · go_wp2
            go_quiet (fail)
            go_wp2
            go_quiet (fail)
            go_wp2
            go_roundw
            case rel => exact ⟨k + 1, by omega, by go_num, ⟨_, rfl⟩, by show _ = _; rw [hcmp.out, HS.out, if_neg (by omega), if_neg (by omega)]⟩
            case measure => simp [intOf]; omega
      · obtain rfl : k = ys.length := by omega
        have he := cmpL_end (xs := xs) (ys := ys) (k := ys.length) HN3.out (by omega) (by omega)
        have HE := hid he
        clear he
        go_wp2
        go_ret
        exact ⟨by rw [hcmp.out, HE.out, if_neg (by omega), if_pos (by omega)]; rfl, hdr.out⟩
  · rw [if_neg hl] at hn
    subst hn
    go_enter Try.func15, Try.ntmps15
    go_wp2_with fail
    go_loopw [6] (fun i wr => ∃ k : Nat, k ≤ xs.length ∧ i = .int .i64 k ∧ Hid (Drawn w wr) ∧ Hid (cmpL xs ys = cmpL (xs.drop k) (ys.drop k))) (fun i _ => xs.length - (intOf i).toNat)
    case atStart => exact ⟨0, Nat.zero_le _, rfl, Drawn.refl _, rfl⟩
    case round =>
      obtain ⟨k, hk, rfl, hdr, hcmp⟩ := hrel
      obtain ⟨q0, rfl⟩ := hdr.out
      by_cases hlt : k < xs.length
      · obtain ⟨g1, o1, rfl, hc1⟩ := HA.out (by omega)
        obtain ⟨g2, o2, rfl, hc2⟩ := HB.out (by omega)
        have e1 := hc1 k (by omega)
        have e2 := hc2 k (by omega)
        unfold uv at e1 e2
        have HS := hid (cmpL_step (xs := xs) (ys := ys) hlt (by omega))
        clear hc1 hc2
        generalize xs.getD k 0 = x at e1 HS
        generalize ys.getD k 0 = y at e2 HS
        have hz1 : (k : Int) < (xs.length : Int) := by omega
        have hz2 : (k : Int) < (ys.length : Int) := by omega
        by_cases h1 : x < y
        · go_wp2
          go_quiet (fail)
          go_wp2
          go_ret
          exact ⟨by rw [hcmp.out, HS.out, if_pos h1]; rfl, hdr.out.drewN _⟩
        · by_cases h2 : y < x
          · go_wp2
            go_quiet (fail)
            go_wp2
            go_quiet (fail)
            go_wp2
            go_ret
            exact ⟨by rw [hcmp.out, HS.out, if_neg (by omega), if_pos h2]; rfl, (hdr.out.drewN _).drewN _⟩
          · go_wp2
            go_quiet (fail)
            go_wp2
            go_quiet (fail)
            go_wp2
            go_roundw
            case rel => exact ⟨k + 1, by omega, by go_num, ⟨_, rfl⟩, by show _ = _; rw [hcmp.out, HS.out, if_neg (by omega), if_neg (by omega)]⟩
            case measure => simp [intOf]; omega
      · obtain rfl : k = xs.length := by omega
        have he := cmpL_end (xs := xs) (ys := ys) (k := xs.length) HN3.out (by omega) (by omega)
        have HE := hid he
        clear he
        by_cases h1 : xs.length < ys.length
        · go_wp2
          go_ret
          exact ⟨by rw [hcmp.out, HE.out, if_pos h1]; rfl, hdr.out⟩
        · go_wp2
          go_ret
          exact ⟨by rw [hcmp.out, HE.out, if_neg (by omega), if_neg (by omega)]; rfl, hdr.out⟩
end Go.Proofs.Qxb6603742a
