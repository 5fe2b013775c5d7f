import Derived.Test.Qxb6603742aSearch2
namespace Go.Proofs.Qxb6603742a
open Go.ChangeShapes Go.WideShapes Go.ChangeAt Go.RowKit

/-- The law's own search, k nodes looked at. -/
def Best (wd : Nat) (xs p : List Int) (k : Nat) (best : Int) : Prop :=
  (best = -1 ∧ ∀ i, i < k → cmpL (nd wd xs i) p < 0) ∨ ∃ b : Nat, b < k ∧ best = (b : Int) ∧ (∀ i, i < b → cmpL (nd wd xs i) p < 0) ∧ 0 ≤ cmpL (nd wd xs b) p

theorem Best.none {wd n lo : Nat} {xs p : List Int} (h : ∀ i, i < n → cmpL (nd wd xs i) p < 0) (f : Found wd xs n p lo) : lo = n := by
  by_cases e : lo = n
  · exact e
  · have h1 := f.le
    exact absurd (h lo (by omega)) (f.high lo (Nat.le_refl _) (by omega))
theorem Best.some {wd n lo b : Nat} {xs p : List Int} (hb : b < n) (h1 : ∀ i, i < b → cmpL (nd wd xs i) p < 0) (h2 : 0 ≤ cmpL (nd wd xs b) p) (f : Found wd xs n p lo) : lo = b := by
  rcases Nat.lt_trichotomy lo b with h | h | h
  · exact absurd (h1 lo h) (f.high lo (Nat.le_refl _) (by omega))
  · exact h
  · have := f.low b h; omega

set_option maxHeartbeats 8000000 in
set_option maxRecDepth 100000 in
theorem least_walk (b wd : Int) (a2 a3 a4 : Option Addr) (c2 c3 c4 : Nat) (ids : List Int) (nms : List ByteArray) (p : List Int) (w : World) (hwd : wd ≤ 9223372036854775807)
    (h2 : ids.length ≤ 131072) (h3 : nms.length ≤ 65536) (h4 : p.length ≤ 131072)
    (r2 : RowIn w a2 ids.length c2 (uv ids)) (r3 : RowIn w a3 nms.length c3 (sv nms)) (r4 : RowIn w a4 p.length c4 (uv p)) :
    Calls Try.prog 4 #[.int .i64 b, .int .i64 wd, .slice a2 ids.length c2, .slice a3 nms.length c3, .slice a4 p.length c4] w fun e w' => e = .returned (.bool true) ∧ Below w.heap.size w w' := by
  have R2 := hid r2
  have R3 := hid r3
  have R4 := hid r4
  clear r2 r3 r4
  go_enter Try.func4, Try.ntmps4
  go_wp2_with fail
  refine (bytes17 b wd a2 a3 ids.length c2 nms.length c3 (fun j => nms.getD j ByteArray.empty) R2.out.len R3.out.len a4 p.length c4 R4.out.len w R3.out.cells).mono ?_
  rintro e w1 ⟨rfl | ⟨rfl, hsz⟩, rfl⟩
  · go_wp2
    go_ret
    exact ⟨rfl, Below.refl _ _⟩
  have HSZ := hid hsz
  clear hsz
  go_wp2_with fail
  refine (namesTooBig9 a3 nms.length c3 (fun j => nms.getD j ByteArray.empty) _ ?_ ?_ (by omega) w1 R3.out.cells (fun j hj => Nat.le_trans (HSZ.out j hj) (by decide))).mono ?_
  · omega
  · omega
  rintro e w2 ⟨⟨bb, rfl⟩, rfl⟩
  cases bb with
  | true =>
    go_wp2
    go_ret
    exact ⟨rfl, Below.refl _ _⟩
  | false =>
  by_cases hw0 : wd < 1
  · go_wp2
    go_ret
    exact ⟨rfl, Below.refl _ _⟩
  obtain ⟨wn, rfl⟩ := Int.eq_ofNat_of_zero_le (show 0 ≤ wd by omega)
  have hw1 : 1 ≤ wn := by omega
  obtain ⟨n, hn⟩ : ∃ n, n = ids.length / wn := ⟨_, rfl⟩
  have hnn : n ≤ ids.length := by rw [hn]; exact Nat.div_le_self _ _
  have e0 : (ids.length : Int) / (wn : Int) = (n : Int) := by rw [hn]; simp
  have HN := hid hn
  clear hn
  by_cases hn1 : n < 1
  · go_wp2
    go_ret
    exact ⟨rfl, Below.refl _ _⟩
  have hwl : wn ≤ 131072 := by
    have := room HN.out (show 0 < n by omega)
    omega
  have HWM : Hid (wn ≤ maxLen) := by show _ ≤ _; unfold maxLen; omega
  have HIM : Hid (ids.length ≤ maxLen) := by show _ ≤ _; unfold maxLen; omega
  have HPM : Hid (p.length ≤ maxLen) := by show _ ≤ _; unfold maxLen; omega
  go_wp2_with fail
  refine (sorted10 a2 c2 wn n ids w2 hw1 HWM.out HN.out R2.out.le R2.out.max R2.out.cells).mono ?_
  rintro e w3 ⟨⟨rfl, _⟩ | ⟨rfl, hasc⟩, hd3⟩
  · go_wp2
    go_ret
    exact ⟨rfl, hd3.below (Below.refl _ _)⟩
  have HASC := hid hasc
  have B3 : Hid (Below w2.heap.size w2 w3) := hd3.below (Below.refl _ _)
  have R2' := hid (R2.out.later B3.out)
  have R3' := hid (R3.out.later B3.out)
  have R4' := hid (R4.out.later B3.out)
  clear hasc hd3 R2 R3 R4
  go_wp2_with fail
  refine (clone11 a2 ids.length c2 (fun j => ids.getD j 0) w3 (by omega) R2'.out).mono ?_
  rintro e w4 ⟨a2', rfl, _, hc2, hb4⟩
  have C2 : Hid (Words w4 a2' ids) := hc2
  have B4 := hid (B3.out.trans (hb4.mono B3.out.size))
  have R3 := hid (R3'.out.later hb4)
  have R4 := hid (R4'.out.later hb4)
  clear hc2 hb4 R2' R3' R4' B3
  go_wp2_with fail
  refine (clone12 a3 nms.length c3 (fun j => nms.getD j ByteArray.empty) w4 (by omega) R3.out).mono ?_
  rintro e w5 ⟨a3', rfl, _, _, hb5⟩
  have C2' : Hid (Words w5 a2' ids) := C2.out.below hb5
  have B5 := hid (B4.out.trans (hb5.mono B4.out.size))
  have R4' := hid (R4.out.later hb5)
  clear hb5 R3 R4 C2 B4
  go_wp2_with fail
  refine (clone11 a4 p.length c4 (fun j => p.getD j 0) w5 (by omega) R4'.out).mono ?_
  rintro e w6 ⟨a4', rfl, _, hc4, hb6⟩
  have CP : Hid (Words w6 a4' p) := hc4
  have C2 : Hid (Words w6 a2' ids) := C2'.out.below hb6
  have B6 := hid (B5.out.trans (hb6.mono B5.out.size))
  clear hc4 hb6 R4' C2' B5
  go_wp2_with fail
  go_loopw [12, 13] (fun s12 s13 wr => ∃ (k : Nat) (bs : Int), k ≤ n ∧ s13 = .int .i64 k ∧ s12 = .int .i64 bs ∧ Hid (Drawn w6 wr) ∧ Hid (Best wn ids p k bs)) (fun _ s13 _ => n - (intOf s13).toNat)
  case atStart => exact ⟨0, -1, Nat.zero_le _, rfl, rfl, Drawn.refl _, .inl ⟨rfl, fun i h => by omega⟩⟩
  case round =>
    obtain ⟨k, bs, hk, rfl, rfl, hd, hbest⟩ := hrel
    have CPr : Hid (Words wr a4' p) := CP.out.drawn hd.out
    have C2r : Hid (Words wr a2' ids) := C2.out.drawn hd.out
    by_cases hlt : k < n
    · go_wp2_with fail
      refine (nodeAt_any a2' ids.length wn n k ids wr hw1 HN.out hlt (Nat.le_refl _) HIM.out C2r.out).mono ?_
      rintro e w7 ⟨a7, c7, rfl, W7, rfl⟩
      have HW7 := hid W7
      have l7 := hid (nd_len_le (wd := wn) (i := k) HN.out hlt HIM.out)
      clear W7
      go_wp2_with fail
      refine (cmpWords15 a7 a4' c7 p.length (nd wn ids k) p w7 l7.out HPM.out HW7.out CPr.out).mono ?_
      rintro e w8 ⟨rfl, hd8⟩
      have HD8 := hid (hd.out.trans hd8)
      have HW8 : Hid (Words w8 a7 (nd wn ids k)) := HW7.out.drawn hd8
      clear hd8 HW7 CPr C2r
      by_cases hc0 : 0 ≤ cmpL (nd wn ids k) p
      · rcases hbest.out with ⟨rfl, hall⟩ | ⟨bN, hbk, rfl, hlow, hge⟩
        · have HB2 : Hid (Best wn ids p (k + 1) (k : Int)) := .inr ⟨k, by omega, rfl, hall, hc0⟩
          clear hall hbest
          go_wp2
          go_roundw
          case rel => exact ⟨k + 1, k, by omega, by go_num, rfl, HD8, HB2⟩
          case measure => simp [intOf]; omega
        · have HB2 : Hid (Best wn ids p (k + 1) (bN : Int)) := .inr ⟨bN, by omega, rfl, hlow, hge⟩
          have HGE : Hid (0 ≤ cmpL (nd wn ids k) (nd wn ids bN)) := by
            have := HASC.out.le k bN (by omega) hlt
            show 0 ≤ _
            rw [cmpL_swap]; omega
          clear hlow hge hbest
          have C28 : Hid (Words w8 a2' ids) := C2.out.drawn HD8.out
          go_wp2_with fail
          refine (nodeAt_any a2' ids.length wn n bN ids w8 hw1 HN.out (by omega) (Nat.le_refl _) HIM.out C28.out).mono ?_
          rintro e w9 ⟨a9, c9, rfl, W9, rfl⟩
          have HW9 := hid W9
          have l9 := hid (nd_len_le (wd := wn) (i := bN) HN.out (by omega) HIM.out)
          clear W9
          go_wp2_with fail
          refine (cmpWords15 a7 a9 c7 c9 (nd wn ids k) (nd wn ids bN) w9 l7.out l9.out HW8.out HW9.out).mono ?_
          rintro e w10 ⟨rfl, hd10⟩
          have HD10 := hid (HD8.out.trans hd10)
          clear hd10
          have hge := HGE.out
          go_wp2
          go_roundw
          case rel => exact ⟨k + 1, bN, by omega, by go_num, rfl, HD10, HB2⟩
          case measure => simp [intOf]; omega
      · have HB2 : Hid (Best wn ids p (k + 1) bs) := by
          rcases hbest.out with ⟨rfl, hall⟩ | ⟨bN, hbk, rfl, hlow, hge⟩
          · refine .inl ⟨rfl, fun i hi => ?_⟩
            by_cases e : i = k
            · rw [e]; omega
            · exact hall i (by omega)
          · exact .inr ⟨bN, by omega, rfl, hlow, hge⟩
        clear hbest
        go_wp2
        go_roundw
        case rel => exact ⟨k + 1, bs, by omega, by go_num, rfl, HD8, HB2⟩
        case measure => simp [intOf]; omega
    · obtain rfl : k = n := by omega
      rcases hbest.out with ⟨rfl, hall⟩ | ⟨bN, hbk, rfl, hlow, hge⟩
      · have HFIN : Hid (∀ lo, Found wn ids k p lo → (if lo = k then 0 else lo) = 0) := fun lo f => by rw [if_pos (Best.none hall f)]
        clear hall hbest CPr C2r
        go_wp2_with fail
        go_loopw [12, 15] (fun s12 s15 wx => ∃ (m : Nat), s15 = .int .i64 ((m : Int) + 1) ∧ (m + 1 ≤ k) ∧ s12 = .int .i64 0 ∧ Hid (Drawn w6 wx)) (fun _ s15 _ => k - (intOf s15).toNat)
        case atStart => exact ⟨0, rfl, by omega, rfl, hd⟩
        case round =>
          clear hd
          obtain ⟨m, rfl, hm, rfl, hd⟩ := hrel
          by_cases hlt2 : m + 1 < k
          · have C2r : Hid (Words wr a2' ids) := C2.out.drawn hd.out
            go_wp2_with fail
            rw [show ((m : Int) + 1) = ((m + 1 : Nat) : Int) from by omega]
            refine (nodeAt_any a2' ids.length wn k (m + 1) ids wr hw1 HN.out hlt2 (Nat.le_refl _) HIM.out C2r.out).mono ?_
            rintro e w7 ⟨a7, c7, rfl, W7, rfl⟩
            have HW7 := hid W7
            have l7 := hid (nd_len_le (wd := wn) (i := m + 1) HN.out hlt2 HIM.out)
            clear W7
            go_wp2_with fail
            rw [show (0 : Int) = ((0 : Nat) : Int) from rfl]
            refine (nodeAt_any a2' ids.length wn k 0 ids w7 hw1 HN.out (by omega) (Nat.le_refl _) HIM.out C2r.out).mono ?_
            rintro e w8 ⟨a8, c8, rfl, W8, rfl⟩
            have HW8 := hid W8
            have l8 := hid (nd_len_le (wd := wn) (i := 0) HN.out (by omega) HIM.out)
            have HGE : Hid (0 ≤ cmpL (nd wn ids (m + 1)) (nd wn ids 0)) := by
              have := HASC.out.le (m + 1) 0 (by omega) hlt2
              show 0 ≤ _
              rw [cmpL_swap]; omega
            clear W8
            generalize nd wn ids (m + 1) = x7 at HW7 l7 HGE ⊢
            generalize nd wn ids 0 = x8 at HW8 l8 HGE ⊢
            go_wp2_with fail
            refine (cmpWords15 a7 a8 c7 c8 x7 x8 w8 l7.out l8.out HW7.out HW8.out).mono ?_
            rintro e w9 ⟨rfl, hd9⟩
            have HD9 := hid (hd.out.trans hd9)
            have hge := HGE.out
            clear hd9
            go_wp2
            go_roundw
            case rel => exact ⟨m + 1, by go_num, by omega, rfl, HD9⟩
            case measure => simp [intOf]; omega
          · have hk0 : 0 < k := by omega
            go_wp2_with fail
            refine (make13 b wn _ _ a2' a3' ids.length ids.length nms.length nms.length wr rfl rfl).mono ?_
            rintro e w11 ⟨rfl, hB11, hb11⟩
            have HB11 := hid hB11
            have C211 : Hid (Words w11 a2' ids) := (C2.out.drawn hd.out).below hb11
            have CP11 : Hid (Words w11 a4' p) := (CP.out.drawn hd.out).below hb11
            have BW : Hid (Below w2.heap.size w2 wr) := hd.out.below B6.out
            have B11 := hid (BW.out.trans (hb11.mono BW.out.size))
            clear hB11 hb11 BW
            generalize wr.heap.size = rb at HB11 ⊢
            go_wp2_with fail
            refine (zzsuccessor18 rb wn k ids.length p.length a2' a4' (.int .i64 b) (.slice a3' nms.length nms.length) ids p w11 hw1 HWM.out HN.out (by omega) (Nat.le_refl _) HIM.out h2 h4 HB11.out C211.out CP11.out HASC.out).mono ?_
            rintro e w12 ⟨lo, i, a12, c12, hf, hi, rfl, W12, hd12⟩
            have hfin := HFIN.out lo hf
            rw [← hi] at hfin
            subst hfin
            have HW12 := hid W12
            have C212 : Hid (Words w12 a2' ids) := C211.out.drawn hd12
            have B12 : Hid (Below w2.heap.size w2 w12) := hd12.below B11.out
            clear hf hi W12 hd12 HFIN C211 CP11 B11 HB11
            go_wp2_with fail
            rw [show (0 : Int) = ((0 : Nat) : Int) from rfl]
            refine (nodeAt_any a2' ids.length wn k 0 ids w12 hw1 HN.out hk0 (Nat.le_refl _) HIM.out C212.out).mono ?_
            rintro e w13 ⟨a13, c13, rfl, W13, rfl⟩
            have HW13 := hid W13
            have l13 := hid (nd_len_le (wd := wn) (i := 0) HN.out hk0 HIM.out)
            have HZ := hid (cmpL_self (nd wn ids 0))
            clear W13
            generalize nd wn ids 0 = x13 at HW12 HW13 l13 HZ ⊢
            go_wp2_with fail
            refine (cmpWords15 a12 a13 c12 c13 x13 x13 w13 l13.out l13.out HW12.out HW13.out).mono ?_
            rintro e w14 ⟨rfl, hd14⟩
            rw [HZ.out]
            have B14 := hid (hd14.below B12.out)
            clear hd14
            go_wp2
            go_ret
            exact ⟨rfl, B14.out⟩
      · have HFIN : Hid (∀ lo, Found wn ids k p lo → (if lo = k then 0 else lo) = bN) := fun lo f => by
          have := Best.some hbk hlow hge f
          rw [if_neg (by omega), this]
        clear hlow hge hbest CPr C2r
        go_wp2_with fail
        refine (make13 b wn _ _ a2' a3' ids.length ids.length nms.length nms.length wr rfl rfl).mono ?_
        rintro e w11 ⟨rfl, hB11, hb11⟩
        have HB11 := hid hB11
        have C211 : Hid (Words w11 a2' ids) := (C2.out.drawn hd.out).below hb11
        have CP11 : Hid (Words w11 a4' p) := (CP.out.drawn hd.out).below hb11
        have BW : Hid (Below w2.heap.size w2 wr) := hd.out.below B6.out
        have B11 := hid (BW.out.trans (hb11.mono BW.out.size))
        clear hB11 hb11 BW
        generalize wr.heap.size = rb at HB11 ⊢
        go_wp2_with fail
        refine (zzsuccessor18 rb wn k ids.length p.length a2' a4' (.int .i64 b) (.slice a3' nms.length nms.length) ids p w11 hw1 HWM.out HN.out (by omega) (Nat.le_refl _) HIM.out h2 h4 HB11.out C211.out CP11.out HASC.out).mono ?_
        rintro e w12 ⟨lo, i, a12, c12, hf, hi, rfl, W12, hd12⟩
        have hfin := HFIN.out lo hf
        rw [← hi] at hfin
        subst hfin
        have HW12 := hid W12
        have C212 : Hid (Words w12 a2' ids) := C211.out.drawn hd12
        have B12 : Hid (Below w2.heap.size w2 w12) := hd12.below B11.out
        clear hf hi W12 hd12 HFIN C211 CP11 B11 HB11
        go_wp2_with fail
        refine (nodeAt_any a2' ids.length wn k i ids w12 hw1 HN.out hbk (Nat.le_refl _) HIM.out C212.out).mono ?_
        rintro e w13 ⟨a13, c13, rfl, W13, rfl⟩
        have HW13 := hid W13
        have l13 := hid (nd_len_le (wd := wn) (i := i) HN.out hbk HIM.out)
        have HZ := hid (cmpL_self (nd wn ids i))
        clear W13
        generalize nd wn ids i = x13 at HW12 HW13 l13 HZ ⊢
        go_wp2_with fail
        refine (cmpWords15 a12 a13 c12 c13 x13 x13 w13 l13.out l13.out HW12.out HW13.out).mono ?_
        rintro e w14 ⟨rfl, hd14⟩
        rw [HZ.out]
        have B14 := hid (hd14.below B12.out)
        clear hd14
        go_wp2
        go_ret
        exact ⟨rfl, B14.out⟩
end Go.Proofs.Qxb6603742a
