import Derived.Test.Qxb6603742aFront
namespace Go.Proofs.Qxb6603742a
open Go.ChangeShapes Go.WideShapes Go.ChangeAt Go.RowKit

/-- A slice that shows the words xs. -/
def Words (w : World) (a : Option Addr) (xs : List Int) : Prop := Cells w a xs.length (uv xs)

theorem room {wd n : Nat} {xs : List Int} {i : Nat} (hn : n = xs.length / wd) (hi : i < n) : i * wd + wd ≤ xs.length := by
  have h1 : (i + 1) * wd ≤ n * wd := Nat.mul_le_mul_right wd hi
  have h2 : n * wd ≤ xs.length := by rw [hn]; exact Nat.div_mul_le_self _ _
  rw [Nat.succ_mul] at h1
  omega

theorem nodeAt_any (a : Option Addr) (c wd n i : Nat) (xs : List Int) (w : World) (hw : 1 ≤ wd) (hn : n = xs.length / wd) (hi : i < n) (hc : xs.length ≤ c) (hcm : c ≤ maxLen) (hA : Words w a xs) :
    Calls Try.prog 16 #[.slice a xs.length c, .int .i64 wd, .int .i64 i] w fun e w' => ∃ a' c', e = .returned (.slice a' (nd wd xs i).length c') ∧ Words w a' (nd wd xs i) ∧ w' = w := by
  have hr := room hn hi
  obtain ⟨g, o, rfl, hcl⟩ := hA (by omega)
  obtain ⟨e1, e2⟩ := cells_nd (g := g) (o := o) (lo := i * wd) (wd := wd) (i := i) rfl hr hcl
  refine (nodeAt16 g o c xs.length wd i (i * wd) w rfl hw hr hc hcm).mono ?_
  rintro e w' ⟨rfl, rfl⟩
  refine ⟨_, _, by rw [e1], ?_, rfl⟩
  unfold Words
  rw [e1]; exact e2

theorem node_any (rb wd n i ic : Nat) (ia : Option Addr) (b nm : Value) (xs : List Int) (w : World) (hw : 1 ≤ wd) (hn : n = xs.length / wd) (hi : i < n) (hc : xs.length ≤ ic) (hcm : ic ≤ maxLen)
    (hr : Blk w rb 47 [b, .int .i64 wd, .slice ia xs.length ic, nm]) (hA : Words w ia xs) :
    Calls Try.prog 31 #[.pointer (some ⟨rb, 0, none⟩), .int .i64 i] w fun e w' => ∃ a' c', e = .returned (.slice a' (nd wd xs i).length c') ∧ Words w a' (nd wd xs i) ∧ Drawn w w' := by
  have hro := room hn hi
  obtain ⟨g, o, rfl, hcl⟩ := hA (by omega)
  obtain ⟨e1, e2⟩ := cells_nd (g := g) (o := o) (lo := i * wd) (wd := wd) (i := i) rfl hro hcl
  refine (node31 rb g o ic xs.length wd i (i * wd) b nm w rfl hw hro hc hcm hr).mono ?_
  rintro e w' ⟨rfl, hd⟩
  refine ⟨_, _, by rw [e1], ?_, hd⟩
  unfold Words
  rw [e1]; exact e2

theorem nd_len_le {wd n i : Nat} {xs : List Int} (hn : n = xs.length / wd) (hi : i < n) (hx : xs.length ≤ maxLen) : (nd wd xs i).length ≤ maxLen := by
  have := room hn hi
  rw [nd_length (by rw [Nat.succ_mul]; exact this)]
  omega

set_option maxHeartbeats 2000000 in
theorem sorted10 (a : Option Addr) (c wd n : Nat) (xs : List Int) (w : World) (hw : 1 ≤ wd) (hwm : wd ≤ maxLen) (hn : n = xs.length / wd) (hc : xs.length ≤ c) (hcm : c ≤ maxLen) (hA : Words w a xs) :
    Calls Try.prog 10 #[.slice a xs.length c, .int .i64 wd] w fun e w' => ((e = .returned (.bool false) ∧ ¬ Asc wd xs n) ∨ (e = .returned (.bool true) ∧ Asc wd xs n)) ∧ Drawn w w' := by
  have HA := hid hA
  have HN := hid hn
  have HCM := hid hcm
  have hnn : n ≤ xs.length := by rw [hn]; exact Nat.div_le_self _ _
  have e0 : (xs.length : Int) / (wd : Int) = (n : Int) := by rw [hn]; simp
  unfold maxLen at hwm hcm
  clear hA hn
  go_enter Try.func10, Try.ntmps10
  go_wp2_with fail
  go_loopw [6] (fun i wr => ∃ m : Nat, (m + 1 ≤ n ∨ m = 0) ∧ i = .int .i64 ((m : Int) + 1) ∧ Hid (Drawn w wr) ∧ Hid (Asc wd xs (m + 1))) (fun i _ => n - (intOf i).toNat)
  case atStart => exact ⟨0, .inr rfl, rfl, Drawn.refl _, fun i h1 h2 => by omega⟩
  case round =>
    obtain ⟨m, hm, rfl, hd, hasc⟩ := hrel
    by_cases hlt : m + 1 < n
    · have hA1 : Hid (Words wr a xs) := HA.out.drawn hd.out
      go_wp2_with fail
      refine (nodeAt_any a c wd n m xs wr hw HN.out (by omega) hc HCM.out hA1.out).mono ?_
      rintro e w1 ⟨a1, c1, rfl, W1, rfl⟩
      have HW1 := hid W1
      clear W1
      go_wp2_with fail
      rw [show ((m : Int) + 1) = ((m + 1 : Nat) : Int) from by omega]
      refine (nodeAt_any a c wd n (m + 1) xs w1 hw HN.out (by omega) hc HCM.out hA1.out).mono ?_
      rintro e w2 ⟨a2, c2, rfl, W2, rfl⟩
      have HW2 := hid W2
      clear W2
      have HS : Hid (cmpL (nd wd xs m) (nd wd xs (m + 1)) ≤ 0 → Asc wd xs (m + 2)) := fun h i h1 h2 => by
        by_cases e : i = m + 1
        · rw [e]; exact h
        · exact hasc.out i h1 (by omega)
      have HX : Hid (0 < cmpL (nd wd xs m) (nd wd xs (m + 1)) → ¬ Asc wd xs n) := fun h hall => by
        have := hall (m + 1) (by omega) hlt
        simp only [Nat.add_sub_cancel] at this
        omega
      have l1 := hid (nd_len_le (wd := wd) (i := m) HN.out (by omega) (Nat.le_trans hc HCM.out))
      have l2 := hid (nd_len_le (wd := wd) (i := m + 1) HN.out (by omega) (Nat.le_trans hc HCM.out))
      generalize nd wd xs m = x1 at HW1 HS HX l1 ⊢
      generalize nd wd xs (m + 1) = x2 at HW2 HS HX l2 ⊢
      go_wp2_with fail
      refine (cmpWords15 a1 a2 c1 c2 x1 x2 w2 l1.out l2.out HW1.out HW2.out).mono ?_
      rintro e w3 ⟨rfl, hd3⟩
      have HD3 := hid (hd.out.trans hd3)
      clear hd3
      by_cases hc0 : 0 < cmpL x1 x2
      · go_wp2
        go_ret
        exact ⟨.inl ⟨rfl, HX.out hc0⟩, HD3.out⟩
      · have HS2 := hid (HS.out (by omega))
        clear HS HX
        go_wp2
        go_roundw
        case rel => exact ⟨m + 1, .inl (by omega), by go_num, HD3, HS2⟩
        case measure => simp [intOf]; omega
    · have HALL : Hid (Asc wd xs n) := fun i h1 h2 => hasc.out i h1 (by omega)
      go_wp2
      go_ret
      exact ⟨.inr ⟨rfl, HALL.out⟩, hd.out⟩
end Go.Proofs.Qxb6603742a
