import Derived.Test.Qxb6603698aFront
namespace Go.Proofs.Qxb6603698a
open Go.ChangeShapes Go.WideShapes Go.ChangeAt Go.RowKit

/-- The numbers that the first j parts bear, as 'seen' has them. -/
def Seen (F : Nat → Int) (m j : Nat) (G : Nat → Bool) : Prop := ∀ v, v ≤ m → (G v = true ↔ ∃ i, i < j ∧ F i = (v : Int))

theorem Seen.start (F : Nat → Int) (m : Nat) : Seen F m 0 (fun _ => false) := fun v _ => ⟨fun h => by simp at h, fun ⟨i, hi, _⟩ => by omega⟩
theorem Seen.fresh {par : Nat → Nat} {S F : Nat → Int} {m j v : Nat} {G : Nat → Bool} (n : Num par m S F) (h : Seen F m j G) (hj : j ≤ m) (hv : F j = (v : Int)) (hvm : v ≤ m) : G v = false := by
  by_cases e : G v = true
  · obtain ⟨i, hi, hF⟩ := (h v hvm).1 e
    have := n.inj (p := i) (q := j) (by omega) hj (by omega)
    omega
  · simpa using e
theorem Seen.step {F : Nat → Int} {m j v : Nat} {G : Nat → Bool} (h : Seen F m j G) (hv : F j = (v : Int)) : Seen F m (j + 1) (upd G v true) := by
  intro u hu
  by_cases e : u = v
  · subst e; rw [upd_at]; exact ⟨fun _ => ⟨j, by omega, hv⟩, fun _ => rfl⟩
  · rw [upd_ne _ _ _ e, h u hu]
    constructor
    · rintro ⟨i, hi, hF⟩; exact ⟨i, by omega, hF⟩
    · rintro ⟨i, hi, hF⟩
      by_cases e2 : i = j
      · subst e2; omega
      · exact ⟨i, by omega, hF⟩

theorem sum_step {par : Nat → Nat} {S Z : Nat → Int} {m j : Nat} (h1 : 1 ≤ j) (hz : ∀ p, p ≤ m → Z p = wsum (isKid par p) S (j - 1)) (hp : par j ≤ m) :
    ∀ p, p ≤ m → upd Z (par j) (Z (par j) + S j) p = wsum (isKid par p) S (j + 1 - 1) := by
  intro p hpm
  obtain ⟨i, rfl⟩ : ∃ i, j = i + 1 := ⟨j - 1, by omega⟩
  simp only [Nat.add_sub_cancel] at *
  by_cases e : p = par (i + 1)
  · rw [e, upd_at, wsum_yes (by simp [isKid]), hz _ hp]
  · rw [upd_ne _ _ _ e, wsum_no (by simp [isKid]; omega), hz p hpm]

theorem info4 : (Try.prog.info? 4).map (fun i => (i.zero, i.size, i.bytes)) = some (some (.bool false), 1, 1) := by kernel_rfl

set_option maxHeartbeats 4000000 in
set_option maxRecDepth 100000 in
theorem nest_walk (a0 a1 : Option Addr) (m c0 n1 c1 : Nat) (z0 z1 : List Int) (w : World) (hm : m ≤ 65536) (hn1 : n1 ≤ 65536) (r0 : IsRow .u8 w a0 m c0 z0) (r1 : IsRow .i32 w a1 n1 c1 z1) :
    Calls Try.prog 5 #[.slice a0 m c0, .slice a1 n1 c1] w fun e w' => e = .returned (.bool true) ∧ Below w.heap.size w w' := by
  have HR0 := hid r0
  have HR1 := hid r1
  clear r0 r1
  go_enter Try.func5, Try.ntmps5
  go_wp2_with fail
  refine (bytes17 a0 a1 m c0 n1 c1 HR0.out.len HR1.out.len w).mono ?_
  rintro e w' ⟨⟨b, rfl⟩, rfl⟩
  cases b with
  | false =>
    go_wp2
    go_ret
    exact ⟨rfl, Below.refl _ _⟩
  | true =>
    go_wp2_with fail
    refine (fail12_any m a1 n1 c1 z1 w' hn1 HR1.out).mono ?_
    rintro e w1 ⟨rfl | ⟨rfl, tr, hmn, hv⟩, rfl⟩
    · go_wp2
      go_ret
      exact ⟨rfl, Below.refl _ _⟩
    · have HT := hid tr
      have HV := hid hv
      have HM := hid hmn
      clear tr hv hmn
      go_wp2_with fail
      refine (clone13_any a0 m c0 z0 w1 hm HR0.out).mono ?_
      rintro e w2 ⟨a0', c0', rfl, hb2⟩
      have B2 := hid hb2
      clear hb2
      go_wp2_with fail
      refine (clone14_any a1 n1 c1 z1 w2 hn1 (HR1.out.later B2.out)).mono ?_
      rintro e w3 ⟨a1', c1', rfl, hb3, hf⟩
      have B3 : Hid (Below w1.heap.size w1 w3) := B2.out.trans (hb3.mono B2.out.size)
      have HF := hid (failAt_of hf HM.out HV.out)
      clear hb3 hf B2 HM HV
      go_wp2_with fail
      refine (zz16 (parOf z1) a0' a1' m c0' n1 c1' w3 hm HT.out HF.out).mono ?_
      rintro e w4 ⟨ub, tb, S, F, rfl, hA, hB, hN, hu, ht, hut, hb4⟩
      have B4 : Hid (Below w1.heap.size w1 w4) := B3.out.trans (hb4.mono B3.out.size)
      have HF4 := hid (HF.out.below hb4)
      have HA := hid hA
      have HB := hid hB
      have HN := hid hN
      have hus := hA.lt
      have hts := hB.lt
      have h43 := B4.out.size
      clear hA hB hN hb4 HF B3 HR0 HR1
      generalize parOf z1 = par at HT HF4 HN
      have gF0 : w4.cell? ⟨ub, 0, none⟩ = some (.int .i32 0) := by rw [HA.out.cellI (by omega), HN.out.zero]
      have gT0 : w4.cell? ⟨tb, 0, none⟩ = some (.int .i32 ((m : Int) + 1)) := by rw [HB.out.cellI (by omega), HN.out.zero, HN.out.sized.root]; simp
      obtain ⟨i4, hi, hz0, hz1, hz2⟩ := info_parts info4
      go_wp2_with (at_make; refine wpList_make_full _ rfl _ _ 43 rfl 0 4 i4 (.bool false) 1 Try.underlying43 hi hz0 hz1 _ _ _ _ (m + 1) rfl rfl (by omega) (by omega) (by rw [hz2]; omega) (by unfold maxLen; omega) (Nat.zero_le _) ?_)
      intro w5 hown hgrow
      have HQ := hid (arr_of_made hown)
      have B5 : Hid (Below w4.heap.size w4 w5) := (Below.refl w4.heap.size w4).grown hgrow (Nat.le_refl _) (fun k hk => by cases hk)
      clear hown hgrow hi hz0 hz1 hz2
      go_wp2_with fail
      go_loopw [9] (fun s9 wr => ∃ (j : Nat) (G : Nat → Bool), j ≤ m + 1 ∧ s9 = .int .i64 j ∧ Hid (Below w4.heap.size w4 wr) ∧ Hid (Arr wr w4.heap.size 4 (m + 1) (bv G)) ∧ Hid (Seen F m j G)) (fun s9 _ => (m + 1 - intOf s9).toNat)
      case atStart => exact ⟨0, fun _ => false, Nat.zero_le _, rfl, B5, HQ, Seen.start F m⟩
      case round =>
        clear gF0 gT0 HQ B5
        obtain ⟨j, G, hj, rfl, hb, hQ, hSeen⟩ := hrel
        by_cases hjm : j ≤ m
        · have bd := HN.out.bd j hjm
          have bS := HN.out.sized.bd j hjm
          obtain ⟨v, hv⟩ := Int.eq_ofNat_of_zero_le bd.1
          have gF := (HA.out.below hb.out hus).cellI (j := j) (by omega)
          have gT := (HB.out.below hb.out hts).cellI (j := j) (by omega)
          rw [hv] at gF gT bd
          have gq := hQ.out.cellB (j := v) (by omega)
          have fq := hQ.out.frozen v
          rw [hSeen.out.fresh HN.out hjm hv (by omega)] at gq
          have HV := hid hv
          clear hv
          generalize S j = sj at gT bd bS
          go_wp2
          go_roundw
          case rel =>
            exact ⟨j + 1, _, by omega, by go_num, hb.out.setCell (p := ⟨w4.heap.size, v, none⟩) (Nat.le_refl _) _, hQ.out.setB v true, hSeen.out.step HV.out⟩
          case measure => simp [intOf]; omega
        · obtain rfl : j = m + 1 := by omega
          clear hQ hSeen hj hjm
          obtain ⟨i3, hi, hz0, hz1, hz2⟩ := info_parts info3
          go_wp2_with (at_make; refine wpList_make_full _ rfl _ _ 38 rfl 0 3 i3 (.int .i64 0) 1 Try.underlying38 hi hz0 hz1 _ _ _ _ (m + 1) rfl rfl (by omega) (by omega) (by rw [hz2]; omega) (by unfold maxLen; omega) (Nat.zero_le _) ?_)
          intro w6 hown hgrow
          have HZ := hid (arr_of_made hown)
          have hws := hb.out.size
          have B6 : Hid (Below w4.heap.size w4 w6) := hb.out.grown hgrow hws (fun k hk => by cases hk)
          generalize wr.heap.size = zb at *
          clear hown hgrow hi hz0 hz1 hz2 hb
          go_wp2_with fail
          go_loopw [12] (fun s12 wr => ∃ (j : Nat) (Z : Nat → Int), 1 ≤ j ∧ j ≤ m + 1 ∧ s12 = .int .i64 j ∧ Hid (Below w4.heap.size w4 wr) ∧ Hid (Arr wr zb 3 (m + 1) (iv .i64 Z)) ∧ Hid (∀ p, p ≤ m → Z p = wsum (isKid par p) S (j - 1))) (fun s12 _ => (m + 1 - intOf s12).toNat)
          case atStart => exact ⟨1, fun _ => 0, Nat.le_refl _, by omega, rfl, B6, HZ, fun p _ => rfl⟩
          case round =>
            clear HZ B6
            obtain ⟨j, Z, hj1, hj, rfl, hb, hZ, hSum⟩ := hrel
            by_cases hjm : j ≤ m
            · obtain ⟨fb, rfl, hfb, hfl, fv, hfA, hfv⟩ := HF4.out (by omega)
              have gf := (hfA.below hb.out hfb).cellI (j := j) (by omega)
              rw [hfv j hj1 hjm] at gf
              have hlt := HT.out.lt j hj1 hjm
              have bd := HN.out.bd j hjm
              have bS := HN.out.sized.bd j hjm
              have bdp := HN.out.bd (par j) (by omega)
              have nst := HN.out.nest j hj1 hjm
              have bSp := HN.out.sized.bd (par j) (by omega)
              have gF := (HA.out.below hb.out hus).cellI (j := j) (by omega)
              have gT := (HB.out.below hb.out hts).cellI (j := j) (by omega)
              have gFp := (HA.out.below hb.out hus).cellI (j := par j) (by omega)
              have gTp := (HB.out.below hb.out hts).cellI (j := par j) (by omega)
              have gZ := hZ.out.cellI (j := par j) (by omega)
              have fZ := hZ.out.frozen (par j)
              have bZ : 0 ≤ Z (par j) ∧ Z (par j) ≤ (m : Int) + 1 := by
                have e1 := hSum.out (par j) (by omega)
                have e2 := wsum_nonneg (f := isKid par (par j)) HN.out.sized.nn (show j - 1 ≤ m by omega)
                have e3 := wsum_mono (f := isKid par (par j)) HN.out.sized.nn (show j - 1 ≤ m by omega) (Nat.le_refl _)
                have e4 := HN.out.sized.val (par j) (by omega)
                omega
              have HS := hid (sum_step hj1 hSum.out (show par j ≤ m by omega))
              clear hfA hfv
              have hd : decide (F (par j) < F j) = true := decide_eq_true nst.1
              have hle : S j + F j ≤ S (par j) + F (par j) := by omega
              have hjz : (j : Int) < (m : Int) + 1 := by omega
              have hpz : (par j : Int) < (m : Int) + 1 := by omega
              go_wp2
              go_quiet (fail)
              go_wp2
              go_region
              go_wp2
              go_roundw
              case rel =>
                exact ⟨j + 1, upd Z (par j) (Z (par j) + S j), by omega, by omega, by go_num, (Below.drewN hb.out _).setCell (p := ⟨zb, par j, none⟩) hws _, Arr.setI hZ.out (par j) _, HS.out⟩
              case measure => simp [intOf]; omega
            · obtain rfl : j = m + 1 := by omega
              clear hj hjm hj1
              go_wp2_with fail
              go_loopw [14] (fun s14 wx => ∃ (j : Nat), j ≤ m + 1 ∧ s14 = .int .i64 j ∧ ∃ n, wx = wr.drewN n) (fun s14 _ => (m + 1 - intOf s14).toNat)
              case atStart => exact ⟨0, Nat.zero_le _, rfl, 0, rfl⟩
              case round =>
                obtain ⟨j, hj, rfl, n, rfl⟩ := hrel
                by_cases hjm : j ≤ m
                · have bd := HN.out.bd j hjm
                  have bS := HN.out.sized.bd j hjm
                  have gF := (HA.out.below hb.out hus).cellI (j := j) (by omega)
                  have gT := (HB.out.below hb.out hts).cellI (j := j) (by omega)
                  have gZ := hZ.out.cellI (j := j) (by omega)
                  have e1 := hSum.out j hjm
                  have e2 := HN.out.sized.val j hjm
                  simp only [Nat.add_sub_cancel] at e1
                  rw [show Z j = S j - 1 from by omega] at gZ
                  clear e1 e2
                  have hjz : (j : Int) < (m : Int) + 1 := by omega
                  go_wp2
                  go_quiet (fail)
                  go_wp2
                  go_roundw
                  case rel => exact ⟨j + 1, by omega, by go_num, _, rfl⟩
                  case measure => simp [intOf]; omega
                · go_wp2
                  go_ret
                  exact ⟨rfl, Below.drewN (B4.out.trans (hb.out.mono h43)) n⟩
end Go.Proofs.Qxb6603698a
