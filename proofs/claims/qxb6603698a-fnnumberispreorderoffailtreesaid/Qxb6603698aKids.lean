import Derived.Test.Qxb6603698aKidsLaw
import Derived.Test.Qxb6603698aFront
namespace Go.Proofs.Qxb6603698a
open Go.ChangeShapes Go.WideShapes Go.ChangeAt Go.RowKit

/-- ints that are counts. -/
def nv (C : Nat → Nat) : Nat → Value := iv .i64 (fun q => (C q : Int))

theorem Arr.cellN {w : World} {b e n : Nat} {C : Nat → Nat} (h : Arr w b e n (nv C)) {j : Nat} (hj : j < n) : w.cell? ⟨b, j, none⟩ = some (.int .i64 (C j)) := h.cell hj
theorem Arr.setN {w : World} {b e n : Nat} {C : Nat → Nat} (h : Arr w b e n (nv C)) (j v : Nat) {x : Int} (hx : x = (v : Int)) : Arr (w.setCell ⟨b, j, none⟩ (.int .i64 x)) b e n (nv (upd C j v)) := by
  subst hx
  have := Arr.setI (k := .i64) h j (v : Int)
  refine this.congr (fun i _ => ?_)
  by_cases e : i = j
  · subst e; simp [iv, nv, upd_at]
  · simp [iv, nv, upd_ne _ _ _ e]

set_option maxHeartbeats 4000000 in
set_option maxRecDepth 100000 in
theorem children15 (par : Nat → Nat) (m fl fc : Nat) (fa : Option Addr) (w : World) (hm : m ≤ 65536) (t : Tree par m) (hF : FailAt par w m fl fa) :
    Calls Try.prog 15 #[.int .i64 m, .slice fa fl fc] w fun e w' => ∃ sb kb K, e = .returned (.tuple #[.slice (some ⟨kb, 0, none⟩) m m, .slice (some ⟨sb, 0, none⟩) (m + 2) (m + 2)]) ∧
      Arr w' sb 3 (m + 2) (nv (first par m)) ∧ Arr w' kb 3 m (nv K) ∧ Kids par m K ∧ Below w.heap.size w w' := by
  have HT := hid t
  have HF := hid hF
  clear t hF
  obtain ⟨i3, hi, hz0, hz1, hz2⟩ := info_parts info3
  go_enter Try.func15, Try.ntmps15
  go_wp2_with (at_make; refine wpList_make_full _ rfl _ _ 38 rfl 0 3 i3 (.int .i64 0) 1 Try.underlying38 hi hz0 hz1 _ _ _ _ (m + 2) rfl rfl (by omega) (by omega) (by rw [hz2]; omega) (by unfold maxLen; omega) (Nat.zero_le _) ?_)
  intro w1 hown hgrow
  have HS := hid (arr_of_made hown)
  have B1 : Hid (Below w.heap.size w w1) := (Below.refl w.heap.size w).grown hgrow (Nat.le_refl _) (fun k hk => by cases hk)
  obtain ⟨sb, hsb⟩ : ∃ sb, sb = w.heap.size := ⟨_, rfl⟩
  rw [← hsb] at HS ⊢
  have hsN : w.heap.size ≤ sb := by omega
  clear hown hgrow hsb
  go_wp2_with fail
  go_loopw [7] (fun s7 wr => ∃ (j : Nat) (C : Nat → Nat), 1 ≤ j ∧ j ≤ m + 1 ∧ s7 = .int .i64 j ∧ Hid (Below w.heap.size w wr) ∧ Hid (Arr wr sb 3 (m + 2) (nv C)) ∧ Hid (LoopA par m j C)) (fun s7 _ => (m + 1 - intOf s7).toNat)
  case atStart => exact ⟨1, fun _ => 0, Nat.le_refl _, by omega, rfl, B1, HS, LoopA.start par m⟩
  case round =>
    clear HS B1
    obtain ⟨j, C, hj1, hj, rfl, hb, hS, hA⟩ := hrel
    by_cases hjm : j ≤ m
    · obtain ⟨fb, rfl, hfb, hfl, fv, hfA, hfv⟩ := HF.out (by omega)
      have gf := (hfA.below hb.out hfb).cellI (j := j) (by omega)
      rw [hfv j hj1 hjm] at gf
      have hlt := HT.out.lt j hj1 hjm
      have gC := hS.out.cellN (j := par j + 1) (by omega)
      have fC := hS.out.frozen (par j + 1)
      have bC : C (par j + 1) ≤ 65536 := by
        rw [hA.out.succ (par j) (by omega)]
        have := cnt_le (isKid par (par j)) (j - 1)
        omega
      clear hfA hfv
      go_wp2
      go_roundw
      case rel => exact ⟨j + 1, _, by omega, by omega, by go_num, hb.out.setCell (p := ⟨sb, par j + 1, none⟩) hsN _, hS.out.setN (par j + 1) (C (par j + 1) + 1) (by omega), hA.out.step hj1⟩
      case measure => simp [intOf]; omega
    · obtain rfl : j = m + 1 := by omega
      have HB := hid hA.out.toB
      clear hA hj1 hj hjm
      go_wp2_with fail
      go_loopw [8] (fun s8 wx => ∃ (p : Nat) (C : Nat → Nat), p ≤ m + 1 ∧ s8 = .int .i64 p ∧ Hid (Below w.heap.size w wx) ∧ Hid (Arr wx sb 3 (m + 2) (nv C)) ∧ Hid (LoopB par m p C)) (fun s8 _ => (m + 1 - intOf s8).toNat)
      case atStart => exact ⟨0, C, Nat.zero_le _, rfl, hb, hS, HB⟩
      case round =>
        clear hS HB hb
        obtain ⟨p, C, hp, rfl, hb, hS, hL⟩ := hrel
        by_cases hpm : p ≤ m
        · have gp := hS.out.cellN (j := p) (by omega)
          have gp1 := hS.out.cellN (j := p + 1) (by omega)
          have fp1 := hS.out.frozen (p + 1)
          have b0 : C p ≤ 65536 := by rw [hL.out.low p (Nat.le_refl _)]; have := first_le par m p; omega
          have b1 : C (p + 1) ≤ 65536 := by rw [hL.out.high p (Nat.le_refl _) hpm]; have := cnt_le (isKid par p) m; omega
          have hz1 : (p : Int) + 1 < (m : Int) + 2 := by omega
          have hz2 : (p : Int) < (m : Int) + 2 := by omega
          go_wp2
          go_region
          go_wp2
          go_roundw
          case rel => exact ⟨p + 1, _, by omega, by go_num, (hb.out.setCell (p := ⟨sb, p + 1, none⟩) hsN _).drew, (hS.out.setN (p + 1) (C (p + 1) + C p) (by omega)).drew, hL.out.step hpm⟩
          case measure => simp [intOf]; omega
        · obtain rfl : p = m + 1 := by omega
          have hS' : Hid (Arr wr sb 3 (m + 2) (nv (first par m))) := hS.out.congr (fun q hq => by simp only [nv, iv]; rw [hL.out.low q (by omega)])
          clear hS hL hp hpm
          go_wp2_with (at_make; refine wpList_make_full _ rfl _ _ 38 rfl 0 3 i3 (.int .i64 0) 1 Try.underlying38 hi hz0 hz1 _ _ _ _ m rfl rfl (by omega) (by omega) (by rw [hz2]; omega) (by unfold maxLen; omega) (Nat.zero_le _) ?_)
          intro w2 hown hgrow
          have HK := hid (arr_of_made hown)
          have hbs := hb.out.size
          have B2 : Hid (Below w.heap.size w w2) := hb.out.grown hgrow hbs (fun k hk => by cases hk)
          have S2 := hid (hS'.out.grown hgrow)
          have hsk : sb < wr.heap.size := hS'.out.lt
          obtain ⟨kb, hkb⟩ : ∃ kb, kb = wr.heap.size := ⟨_, rfl⟩
          rw [← hkb] at HK hsk ⊢
          have hkN : w.heap.size ≤ kb := by omega
          have hk2 : kb < w2.heap.size := HK.out.lt
          clear hown hgrow hkb hb hS' hbs
          go_wp2_with (at_make; refine wpList_make_full _ rfl _ _ 38 rfl 0 3 i3 (.int .i64 0) 1 Try.underlying38 hi hz0 hz1 _ _ _ _ (m + 1) rfl rfl (by omega) (by omega) (by rw [hz2]; omega) (by unfold maxLen; omega) (Nat.zero_le _) ?_)
          intro w3 hown hgrow
          have HD := hid (arr_of_made hown)
          have hbs := B2.out.size
          have B3 : Hid (Below w.heap.size w w3) := B2.out.grown hgrow hbs (fun k hk => by cases hk)
          have S3 := hid (S2.out.grown hgrow)
          have K3 := hid (HK.out.grown hgrow)
          obtain ⟨nb, hnb⟩ : ∃ nb, nb = w2.heap.size := ⟨_, rfl⟩
          rw [← hnb] at HD hk2 ⊢
          have hnN : w.heap.size ≤ nb := by omega
          clear hown hgrow hnb B2 S2 HK hbs hi hz0 hz1 hz2
          go_wp2_with fail
          go_loopw [11] (fun s11 wx => ∃ (p : Nat) (D : Nat → Nat), p ≤ m + 1 ∧ s11 = .int .i64 p ∧ Hid (Below w.heap.size w wx) ∧ Hid (Arr wx sb 3 (m + 2) (nv (first par m))) ∧ Hid (Arr wx kb 3 m (nv (fun _ => 0))) ∧ Hid (Arr wx nb 3 (m + 1) (nv D)) ∧ Hid (∀ q, q < p → D q = first par m q)) (fun s11 _ => (m + 1 - intOf s11).toNat)
          case atStart => exact ⟨0, fun _ => 0, Nat.zero_le _, rfl, B3, S3, K3, HD, fun q hq => by omega⟩
          case round =>
            clear B3 S3 K3 HD
            obtain ⟨p, D, hp, rfl, hb, hS, hK, hD, hq⟩ := hrel
            by_cases hpm : p ≤ m
            · have gp := hS.out.cellN (j := p) (by omega)
              have gd := hD.out.cellN (j := p) (by omega)
              have fd := hD.out.frozen p
              go_wp2
              go_roundw
              case rel =>
                refine ⟨p + 1, upd D p (first par m p), by omega, by go_num, hb.out.setCell (p := ⟨nb, p, none⟩) hnN _, hS.out.setOther (a := ⟨nb, p, none⟩) (by show sb ≠ nb; omega) _, hK.out.setOther (a := ⟨nb, p, none⟩) (by show kb ≠ nb; omega) _, hD.out.setN p _ rfl, fun q h => ?_⟩
                by_cases e : q = p
                · rw [e, upd_at]
                · rw [upd_ne _ _ _ e]; exact hq.out q (by omega)
              case measure => simp [intOf]; omega
            · have HLD := hid (LoopD.start par m (fun _ => 0) D (fun q h => hq.out q (by omega)))
              obtain rfl : p = m + 1 := by omega
              clear hq hp hpm
              go_wp2_with fail
              go_loopw [12] (fun s12 wx => ∃ (j : Nat) (K D : Nat → Nat), 1 ≤ j ∧ j ≤ m + 1 ∧ s12 = .int .i64 j ∧ Hid (Below w.heap.size w wx) ∧ Hid (Arr wx sb 3 (m + 2) (nv (first par m))) ∧ Hid (Arr wx kb 3 m (nv K)) ∧ Hid (Arr wx nb 3 (m + 1) (nv D)) ∧ Hid (LoopD par m j K D)) (fun s12 _ => (m + 1 - intOf s12).toNat)
              case atStart => exact ⟨1, fun _ => 0, D, Nat.le_refl _, by omega, rfl, hb, hS, hK, hD, HLD⟩
              case round =>
                clear hb hS hK hD HLD
                obtain ⟨j, K, D, hj1, hj, rfl, hb, hS, hK, hD, hL⟩ := hrel
                by_cases hjm : j ≤ m
                · obtain ⟨fb, rfl, hfb, hfl, fv, hfA, hfv⟩ := HF.out (by omega)
                  have gf := (hfA.below hb.out hfb).cellI (j := j) (by omega)
                  rw [hfv j hj1 hjm] at gf
                  have hlt := HT.out.lt j hj1 hjm
                  have gd := hD.out.cellN (j := par j) (by omega)
                  have fd := hD.out.frozen (par j)
                  have hat := hL.out.at (show par j ≤ m by omega)
                  have hpl := pos_lt par m j hj1 hjm
                  rw [hat] at gd
                  have gk := hK.out.cellN (j := pos par m j) hpl
                  have fk := hK.out.frozen (pos par m j)
                  have HAT := hid hat
                  clear hfA hfv hat
                  generalize hpp : pos par m j = pj at gd gk fk hpl HAT
                  have HPP := hid hpp
                  clear hpp
                  go_wp2
                  go_roundw
                  case rel =>
                    refine ⟨j + 1, _, _, by omega, by omega, by go_num, ?_, ?_, ?_, ?_, hL.out.step hj1 hjm⟩
                    · exact (hb.out.setCell (p := ⟨kb, pj, none⟩) hkN _).setCell (p := ⟨nb, par j, none⟩) hnN _
                    · exact (hS.out.setOther (a := ⟨kb, pj, none⟩) (by show sb ≠ kb; omega) _).setOther (a := ⟨nb, par j, none⟩) (by show sb ≠ nb; omega) _
                    · rw [HPP.out]; exact (hK.out.setN pj j rfl).setOther (a := ⟨nb, par j, none⟩) (by show kb ≠ nb; omega) _
                    · rw [HAT.out]; exact (hD.out.setOther (a := ⟨kb, pj, none⟩) (by show nb ≠ kb; omega) _).setN (par j) (pj + 1) (by omega)
                  case measure => simp [intOf]; omega
                · obtain rfl : j = m + 1 := by omega
                  go_wp2
                  go_ret2
                  exact ⟨sb, kb, K, rfl, hS.out, hK.out, fun c h1 h2 => hL.out.kids c h1 (by omega), hb.out⟩
end Go.Proofs.Qxb6603698a
