import Derived.Test.Qxb6603742aComp
import Derived.Test.Qxb6603742aSearch2
namespace Go.Proofs.Qxb6603742a
open Go.ChangeShapes Go.WideShapes Go.ChangeAt Go.RowKit

set_option maxHeartbeats 8000000 in
set_option maxRecDepth 100000 in
theorem keep_walk (b wd : Int) (a2 a3 a4 : Option Addr) (c2 c3 c4 : Nat) (ids : List Int) (nms : List ByteArray) (kp : List Bool) (w : World)
    (h2 : ids.length ≤ 131072) (h3 : nms.length ≤ 65536) (h4 : kp.length ≤ 1048576)
    (r2 : RowIn w a2 ids.length c2 (uv ids)) (r3 : RowIn w a3 nms.length c3 (sv nms)) (r4 : RowIn w a4 kp.length c4 (bl kp)) :
    Calls Try.prog 7 #[.int .i64 b, .int .i64 wd, .slice a2 ids.length c2, .slice a3 nms.length c3, .slice a4 kp.length c4] w fun e w' => e = .returned (.bool true) ∧ Below w.heap.size w w' := by
  have R2 := hid r2
  have R3 := hid r3
  have R4 := hid r4
  have R3nil : Hid (a3 = none → nms.length = 0) := fun h => (r3.nil h).1
  clear r2 r3 r4
  go_enter Try.func7, Try.ntmps7
  go_wp2_with fail
  refine (bytes25 b wd a2 a3 ids.length c2 nms.length c3 (fun j => nms.getD j ByteArray.empty) R2.out.len R3.out.len a4 kp.length c4 R4.out.len w R3.out.cells).mono ?_
  rintro e w1 ⟨rfl | ⟨rfl, hsz⟩, rfl⟩
  · go_wp2
    go_ret
    exact ⟨rfl, Below.refl _ _⟩
  have HSZ := hid hsz
  clear hsz
  go_wp2_with fail
  refine (namesTooBig9 a3 nms.length c3 (fun j => nms.getD j ByteArray.empty) _ ?_ ?_ (by omega) w1 R3.out.cells (fun j hj => Nat.le_trans (HSZ.out j hj) (by decide))).mono ?_
  · omega
  · omega
  rintro e w2 ⟨⟨bb, rfl⟩, rfl⟩
  cases bb with
  | true =>
    go_wp2
    go_ret
    exact ⟨rfl, Below.refl _ _⟩
  | false =>
  go_wp2_with fail
  refine (domain21 b wd a2 a3 a4 ids.length c2 nms.length c3 kp.length c4 R2.out.len w2).mono ?_
  rintro e w3 ⟨rfl | ⟨rfl, hdom⟩, rfl⟩
  · go_wp2
    go_ret
    exact ⟨rfl, Below.refl _ _⟩
  obtain ⟨hb1, hb2, bn, wn, rfl, rfl, hwn, hw1, hkn, hn3⟩ := hdom
  have hwl : wn ≤ 16777217 := by omega
  have HWN := hid hwn
  have HK : Hid (kp.length * wn ≤ ids.length) := Nat.le_trans (Nat.mul_le_mul_right wn hkn) (Nat.div_mul_le_self _ _)
  have HN3 : Hid (a3 ≠ none → kp.length ≤ nms.length) := fun h => by have := hn3 h; omega
  obtain ⟨n, hn⟩ : ∃ n, n = ids.length / wn := ⟨_, rfl⟩
  have hkn' : kp.length ≤ n := by rw [hn]; exact hkn
  have HN := hid hn
  have HWM : Hid (wn ≤ maxLen) := by show _ ≤ _; unfold maxLen; omega
  have HIM : Hid (ids.length ≤ maxLen) := by show _ ≤ _; unfold maxLen; omega
  clear hwn hkn hn3 hn
  go_wp2_with fail
  refine (sorted10 a2 c2 wn n ids w3 hw1 HWM.out HN.out R2.out.le R2.out.max R2.out.cells).mono ?_
  rintro e w4 ⟨⟨rfl, _⟩ | ⟨rfl, hasc⟩, hd4⟩
  · go_wp2
    go_ret
    exact ⟨rfl, hd4.below (Below.refl _ _)⟩
  have HASC := hid hasc
  have B3 : Hid (Below w3.heap.size w3 w4) := hd4.below (Below.refl _ _)
  have R2' := hid (R2.out.later B3.out)
  have R3' := hid (R3.out.later B3.out)
  have R4' := hid (R4.out.later B3.out)
  clear hasc hd4 R2 R3 R4
  go_wp2_with fail
  refine (clone11 a2 ids.length c2 (fun j => ids.getD j 0) w4 (by omega) R2'.out).mono ?_
  rintro e w5 ⟨a2', rfl, _, hc2, hb5⟩
  have C2 : Hid (Cells w5 a2' ids.length (uv ids)) := hc2
  have B4 := hid (B3.out.trans (hb5.mono B3.out.size))
  have R3 := hid (R3'.out.later hb5)
  have R4 := hid (R4'.out.later hb5)
  clear hc2 hb5 R2' R3' R4' B3
  go_wp2_with fail
  refine (clone12 a3 nms.length c3 (fun j => nms.getD j ByteArray.empty) w5 (by omega) R3.out).mono ?_
  rintro e w6 ⟨a3', rfl, hn3', hc3, hb6⟩
  have C3 : Hid (Cells w6 a3' nms.length (sv nms)) := hc3
  have C2' := hid (C2.out.below hb6)
  have B5 := hid (B4.out.trans (hb6.mono B4.out.size))
  have R4' := hid (R4.out.later hb6)
  have HN3' := hid hn3'
  clear hc3 hb6 R3 R4 C2 B4 hn3'
  go_wp2_with fail
  refine (clone22 a4 kp.length c4 (fun j => kp.getD j false) w6 (by omega) R4'.out).mono ?_
  rintro e w7 ⟨a4', rfl, _, hc4, hb7⟩
  have C4 : Hid (Cells w7 a4' kp.length (bl kp)) := hc4
  have C3' := hid (C3.out.below hb7)
  have C2 := hid (C2'.out.below hb7)
  have B6 := hid (B5.out.trans (hb7.mono B5.out.size))
  have HNL : Hid (a3' ≠ none → kp.length ≤ nms.length) := fun h => HN3.out (fun e => h (HN3'.out.2 e))
  have HNN : Hid (a3' = none → nms = []) := fun h => by
    have := R3nil.out (HN3'.out.1 h)
    exact List.eq_nil_of_length_eq_zero this
  clear hc4 hb7 R4' C2' C3 B5 HN3 HN3' R3nil
  go_wp2_with fail
  refine (make13 bn wn _ _ a2' a3' ids.length ids.length nms.length nms.length w7 rfl rfl).mono ?_
  rintro e w9 ⟨rfl, hB9, hb9⟩
  have hr9 := hB9.lt
  have HB9 := hid hB9
  have D2 := hid (C2.out.below hb9)
  have D3 := hid (C3'.out.below hb9)
  have D4 := hid (C4.out.below hb9)
  have B9 := hid (B6.out.trans (hb9.mono B6.out.size))
  generalize w7.heap.size = rb at hr9 HB9 ⊢
  clear hB9 hb9 C2 C3' C4 B6
  go_wp2_with fail
  refine (subring23 rb bn wn a2' a3' ids.length nms.length ids nms a4' kp.length kp w9 (by omega) (by omega) HWN.out HB9.out D2.out (Nat.le_refl _) HIM.out (by omega) D4.out HK.out D3.out HNL.out HNN.out).mono ?_
  rintro e w10 ⟨sb, gb, N1, na1, nc1, rfl, S1, hsb1⟩
  have hb10 := S1.bel
  obtain ⟨x1, x2, x3⟩ := S1.shows
  have X0 := hid S1.blk
  have X1 := hid x1
  have E2 : Hid (Words w10 a2' ids) := D2.out.below hb10
  have E4 := hid (D4.out.below hb10)
  have B10 := hid (B9.out.trans (hb10.mono B9.out.size))
  clear S1 hb10 x1 x3 D2 D3 D4 HB9 B9 HNL HNN hr9
  have hf1 : ∀ j, j < kp.length → (nd wn ids j).length = wn := fun j hj => nd_length (Nat.le_trans (Nat.mul_le_mul_right wn hj) HK.out)
  have hlen1 := sel_length (kp := kp) hf1 kp.length (Nat.le_refl _)
  have HR : Hid (rank kp kp.length = (sel (nd wn ids) kp kp.length).length / wn) := by
    show _ = _
    rw [hlen1, Nat.mul_div_cancel _ hw1]
  have HASC1 : Hid (Asc wn (sel (nd wn ids) kp kp.length) (rank kp kp.length)) := HASC.out.sel hkn' HK.out
  have HITS : Hid (∀ k, k < kp.length → kp.getD k false = true → ∀ lo, Found wn (sel (nd wn ids) kp kp.length) (rank kp kp.length) (nd wn ids k) lo → lo < rank kp kp.length ∧ nd wn (sel (nd wn ids) kp kp.length) lo = nd wn ids k) := fun k hk hkb lo f =>
    f.hit HASC1.out (j := rank kp k) (by have e := rank_yes hkb; have := rank_mono kp (show k + 1 ≤ kp.length by omega); omega) (nd_sel hf1 hk hkb)
  clear hf1 hlen1
  have hRk := rank_le kp kp.length
  generalize sel (nd wn ids) kp kp.length = ids1 at x2 X0 X1 HR HASC1 HITS
  generalize sel (nd 1 nms) kp kp.length = nms1 at X0
  obtain ⟨R, hR⟩ : ∃ R, R = rank kp kp.length := ⟨_, rfl⟩
  rw [← hR] at HR HASC1 HITS hRk
  have HRR := hid hR
  clear hR
  have hl1 : ids1.length ≤ 131072 := by omega
  have HM1 : Hid (ids1.length ≤ maxLen) := by show _ ≤ _; unfold maxLen; omega
  go_wp2_with fail
  go_loop [13, 14] (fun c i => ∃ k : Nat, k ≤ kp.length ∧ i = .int .i64 k ∧ c = .int .i64 ((rank kp k : Nat) : Int)) (fun _ i => kp.length - (intOf i).toNat)
  case atStart => exact ⟨0, Nat.zero_le _, rfl, rfl⟩
  case round =>
    obtain ⟨k, hk, rfl, rfl⟩ := hrel
    have hrk := rank_le kp k
    by_cases hlt : k < kp.length
    · obtain ⟨g, o, rfl, hc⟩ := E4.out (by omega)
      have e1 : w10.cell? ⟨g, o + k, none⟩ = some (.bool (kp.getD k false)) := hc k hlt
      clear hc
      cases hkb : kp.getD k false with
      | true =>
        rw [hkb] at e1
        have HE := hid (rank_yes hkb)
        clear hkb
        go_wp2
        go_round
        case rel => exact ⟨k + 1, by omega, by go_num, by rw [HE.out]; go_num⟩
        case measure => simp [intOf]; omega
      | false =>
        rw [hkb] at e1
        have HE := hid (rank_no hkb)
        clear hkb
        go_wp2
        go_round
        case rel => exact ⟨k + 1, by omega, by go_num, by rw [HE.out]⟩
        case measure => simp [intOf]; omega
    · obtain rfl : k = kp.length := by omega
      rw [← HRR.out]
      clear hrk hk
      go_wp2_with fail
      refine (len26 sb ids1.length ids.length wn R (some ⟨gb, 0, none⟩) (.int .i64 bn) (.slice na1 nms1.length nc1) w10 hw1 HM1.out HWM.out HR.out X0.out).mono ?_
      rintro e w11 ⟨rfl, hd11⟩
      have X01 := hid (X0.out.drawn hd11)
      have HD11 := hid hd11
      clear hd11
      go_wp2_with fail
      refine (fields27 sb bn wn (some ⟨gb, 0, none⟩) na1 ids1.length ids.length nms1.length nc1 w11 X01.out).mono ?_
      rintro e w12 ⟨rfl, hd12⟩
      have HD12 := hid (HD11.out.trans hd12)
      clear hd12 HD11 X01
      have X12 : Hid (Words w12 (some ⟨gb, 0, none⟩) ids1) := X1.out.drawn HD12.out
      go_wp2_with fail
      refine (sorted10 (some ⟨gb, 0, none⟩) ids.length wn R ids1 w12 hw1 HWM.out HR.out x2 HIM.out X12.out).mono ?_
      rintro e w13 ⟨⟨rfl, hno⟩ | ⟨rfl, _⟩, hd13⟩
      · exact absurd HASC1.out hno
      have HD13 := hid (HD12.out.trans hd13)
      clear hd13 HD12 X12
      go_wp2_with fail
      go_loopw [19] (fun s19 wr => ∃ k : Nat, k ≤ kp.length ∧ s19 = .int .i64 k ∧ Hid (Drawn w10 wr)) (fun s19 _ => kp.length - (intOf s19).toNat)
      case atStart => exact ⟨0, Nat.zero_le _, rfl, HD13⟩
      case round =>
        clear HD13
        obtain ⟨k, hk, rfl, hd⟩ := hrel
        by_cases hlt : k < kp.length
        · have E4r : Hid (Cells wr a4' kp.length (bl kp)) := E4.out.drawn hd.out
          obtain ⟨g, o, rfl, hc⟩ := E4r.out (by omega)
          have e1 : wr.cell? ⟨g, o + k, none⟩ = some (.bool (kp.getD k false)) := hc k hlt
          clear hc E4r
          cases hkb : kp.getD k false with
          | true =>
            rw [hkb] at e1
            have HHIT := hid (HITS.out k hlt hkb)
            have E2r : Hid (Words wr a2' ids) := E2.out.drawn hd.out
            have X1r : Hid (Words wr (some ⟨gb, 0, none⟩) ids1) := X1.out.drawn hd.out
            have X0r := hid (X0.out.drawn hd.out)
            clear hkb
            have hkn2 : k < n := by omega
            go_wp2_with fail
            refine (nodeAt_any a2' ids.length wn n k ids wr hw1 HN.out hkn2 (Nat.le_refl _) HIM.out E2r.out).mono ?_
            rintro e w14 ⟨a14, c14, rfl, W14, rfl⟩
            have HW14 := hid W14
            have l14 := hid (nd_length (L := wn) (xs := ids) (i := k) (by rw [Nat.succ_mul]; exact room HN.out hkn2))
            have hrm := room HN.out hkn2
            have hx14 : (nd wn ids k).length ≤ 131072 := by have := l14.out; omega
            clear W14 l14 hrm
            generalize nd wn ids k = x14 at HW14 HHIT hx14 ⊢
            go_wp2_with fail
            refine (zzsearch14 sb wn R ids.length c14 (some ⟨gb, 0, none⟩) a14 (.int .i64 bn) (.slice na1 nms1.length nc1) ids1 x14 w14 hw1 HWM.out HR.out x2 HIM.out hl1 hx14 X0r.out X1r.out HW14.out HASC1.out).mono ?_
            rintro e w15 ⟨lo, hf, rfl, hd15⟩
            have hdec : decide (lo < R ∧ nd wn ids1 lo = x14) = true := decide_eq_true (HHIT.out lo hf)
            rw [hdec]
            have HD15 := hid (hd.out.trans hd15)
            clear hf hd15 hdec HHIT X0r X1r E2r
            go_wp2
            go_roundw
            case rel => exact ⟨k + 1, by omega, by go_num, HD15⟩
            case measure => simp [intOf]; omega
          | false =>
            rw [hkb] at e1
            clear hkb
            go_wp2
            go_roundw
            case rel => exact ⟨k + 1, by omega, by go_num, hd⟩
            case measure => simp [intOf]; omega
        · go_wp2
          go_ret
          exact ⟨rfl, hd.out.below B10.out⟩
end Go.Proofs.Qxb6603742a
