import Derived.Test.Qxb6603742aSearch2
namespace Go.Proofs.Qxb6603742a
open Go.ChangeShapes Go.WideShapes Go.ChangeAt Go.RowKit

set_option maxHeartbeats 8000000 in
set_option maxRecDepth 100000 in
theorem idem_walk (b wd : Int) (a2 a3 a4 : Option Addr) (c2 c3 c4 : Nat) (ids : List Int) (nms : List ByteArray) (p : List Int) (w : World) (hwd : wd ≤ 9223372036854775807)
    (h2 : ids.length ≤ 131072) (h3 : nms.length ≤ 65536) (h4 : p.length ≤ 131072)
    (r2 : RowIn w a2 ids.length c2 (uv ids)) (r3 : RowIn w a3 nms.length c3 (sv nms)) (r4 : RowIn w a4 p.length c4 (uv p)) :
    Calls Try.prog 5 #[.int .i64 b, .int .i64 wd, .slice a2 ids.length c2, .slice a3 nms.length c3, .slice a4 p.length c4] w fun e w' => e = .returned (.bool true) ∧ Below w.heap.size w w' := by
  have R2 := hid r2
  have R3 := hid r3
  have R4 := hid r4
  clear r2 r3 r4
  go_enter Try.func5, Try.ntmps5
  go_wp2_with fail
  refine (bytes19 b wd a2 a3 ids.length c2 nms.length c3 (fun j => nms.getD j ByteArray.empty) R2.out.len R3.out.len a4 p.length c4 R4.out.len w R3.out.cells).mono ?_
  rintro e w1 ⟨rfl | ⟨rfl, hsz⟩, rfl⟩
  · go_wp2
    go_ret
    exact ⟨rfl, Below.refl _ _⟩
  have HSZ := hid hsz
  clear hsz
  go_wp2_with fail
  refine (namesTooBig9 a3 nms.length c3 (fun j => nms.getD j ByteArray.empty) _ ?_ ?_ (by omega) w1 R3.out.cells (fun j hj => Nat.le_trans (HSZ.out j hj) (by decide))).mono ?_
  · omega
  · omega
  rintro e w2 ⟨⟨bb, rfl⟩, rfl⟩
  cases bb with
  | true =>
    go_wp2
    go_ret
    exact ⟨rfl, Below.refl _ _⟩
  | false =>
  by_cases hw0 : wd < 1
  · go_wp2
    go_ret
    exact ⟨rfl, Below.refl _ _⟩
  obtain ⟨wn, rfl⟩ := Int.eq_ofNat_of_zero_le (show 0 ≤ wd by omega)
  have hw1 : 1 ≤ wn := by omega
  obtain ⟨n, hn⟩ : ∃ n, n = ids.length / wn := ⟨_, rfl⟩
  have hnn : n ≤ ids.length := by rw [hn]; exact Nat.div_le_self _ _
  have e0 : (ids.length : Int) / (wn : Int) = (n : Int) := by rw [hn]; simp
  have HN := hid hn
  clear hn
  by_cases hn1 : n < 1
  · go_wp2
    go_ret
    exact ⟨rfl, Below.refl _ _⟩
  have hwl : wn ≤ 131072 := by
    have := room HN.out (show 0 < n by omega)
    omega
  have HWM : Hid (wn ≤ maxLen) := by show _ ≤ _; unfold maxLen; omega
  have HIM : Hid (ids.length ≤ maxLen) := by show _ ≤ _; unfold maxLen; omega
  have HPM : Hid (p.length ≤ maxLen) := by show _ ≤ _; unfold maxLen; omega
  go_wp2_with fail
  refine (sorted10 a2 c2 wn n ids w2 hw1 HWM.out HN.out R2.out.le R2.out.max R2.out.cells).mono ?_
  rintro e w3 ⟨⟨rfl, _⟩ | ⟨rfl, hasc⟩, hd3⟩
  · go_wp2
    go_ret
    exact ⟨rfl, hd3.below (Below.refl _ _)⟩
  have HASC := hid hasc
  have B3 : Hid (Below w2.heap.size w2 w3) := hd3.below (Below.refl _ _)
  have R2' := hid (R2.out.later B3.out)
  have R3' := hid (R3.out.later B3.out)
  have R4' := hid (R4.out.later B3.out)
  clear hasc hd3 R2 R3 R4
  go_wp2_with fail
  refine (clone11 a2 ids.length c2 (fun j => ids.getD j 0) w3 (by omega) R2'.out).mono ?_
  rintro e w4 ⟨a2', rfl, _, hc2, hb4⟩
  have C2 : Hid (Words w4 a2' ids) := hc2
  have B4 := hid (B3.out.trans (hb4.mono B3.out.size))
  have R3 := hid (R3'.out.later hb4)
  have R4 := hid (R4'.out.later hb4)
  clear hc2 hb4 R2' R3' R4' B3
  go_wp2_with fail
  refine (clone12 a3 nms.length c3 (fun j => nms.getD j ByteArray.empty) w4 (by omega) R3.out).mono ?_
  rintro e w5 ⟨a3', rfl, _, _, hb5⟩
  have C2' : Hid (Words w5 a2' ids) := C2.out.below hb5
  have B5 := hid (B4.out.trans (hb5.mono B4.out.size))
  have R4' := hid (R4.out.later hb5)
  clear hb5 R3 R4 C2 B4
  go_wp2_with fail
  refine (clone11 a4 p.length c4 (fun j => p.getD j 0) w5 (by omega) R4'.out).mono ?_
  rintro e w6 ⟨a4', rfl, _, hc4, hb6⟩
  have CP : Hid (Words w6 a4' p) := hc4
  have C2 : Hid (Words w6 a2' ids) := C2'.out.below hb6
  have B6 := hid (B5.out.trans (hb6.mono B5.out.size))
  clear hc4 hb6 R4' C2' B5
  go_wp2_with fail
  refine (make13 b wn _ _ a2' a3' ids.length ids.length nms.length nms.length w6 rfl rfl).mono ?_
  rintro e w11 ⟨rfl, hB11, hb11⟩
  have HB11 := hid hB11
  have C211 : Hid (Words w11 a2' ids) := C2.out.below hb11
  have CP11 : Hid (Words w11 a4' p) := CP.out.below hb11
  have B11 := hid (B6.out.trans (hb11.mono B6.out.size))
  clear hB11 hb11 C2 CP B6
  generalize w6.heap.size = rb at HB11 ⊢
  have hn0 : 1 ≤ n := by omega
  go_wp2_with fail
  refine (zzsuccessor18 rb wn n ids.length p.length a2' a4' (.int .i64 b) (.slice a3' nms.length nms.length) ids p w11 hw1 HWM.out HN.out hn0 (Nat.le_refl _) HIM.out h2 h4 HB11.out C211.out CP11.out HASC.out).mono ?_
  rintro e w12 ⟨lo, i, a12, c12, hf, hi, rfl, W12, hd12⟩
  have hin : i < n := by
    have := hf.le
    rw [hi]; split <;> omega
  have HW12 := hid W12
  have C212 : Hid (Words w12 a2' ids) := C211.out.drawn hd12
  have HB12 := hid (HB11.out.drawn hd12)
  have B12 : Hid (Below w2.heap.size w2 w12) := hd12.below B11.out
  have hl1 := nd_length (L := wn) (xs := ids) (i := i) (by rw [Nat.succ_mul]; exact room HN.out hin)
  have HHIT : Hid (∀ lo, Found wn ids n (nd wn ids i) lo → lo < n ∧ nd wn ids lo = nd wn ids i) := fun lo f => f.hit HASC.out hin rfl
  clear hf hi W12 hd12 C211 CP11 B11 HB11
  generalize nd wn ids i = x1 at HW12 HHIT hl1 ⊢
  have hle1 : x1.length ≤ wn := by omega
  have hle2 : wn ≤ x1.length := by omega
  have hx1 : x1.length ≤ 131072 := by omega
  have HX1 : Hid (x1.length ≤ maxLen) := by show _ ≤ _; unfold maxLen; omega
  clear hl1
  go_wp2_with fail
  refine (zzsearch14 rb wn n ids.length c12 a2' a12 (.int .i64 b) (.slice a3' nms.length nms.length) ids x1 w12 hw1 HWM.out HN.out (Nat.le_refl _) HIM.out h2 hx1 HB12.out C212.out HW12.out HASC.out).mono ?_
  rintro e w13 ⟨lo2, hf2, rfl, hd13⟩
  have hhit := HHIT.out lo2 hf2
  have hdec : decide (lo2 < n ∧ nd wn ids lo2 = x1) = true := decide_eq_true hhit
  rw [hdec]
  have HW13 : Hid (Words w13 a12 x1) := HW12.out.drawn hd13
  have C213 : Hid (Words w13 a2' ids) := C212.out.drawn hd13
  have HB13 := hid (HB12.out.drawn hd13)
  have B13 : Hid (Below w2.heap.size w2 w13) := hd13.below B12.out
  clear hf2 hhit hdec hd13 HW12 C212 HB12 B12
  go_wp2_with fail
  refine (zzsuccessor18 rb wn n ids.length c12 a2' a12 (.int .i64 b) (.slice a3' nms.length nms.length) ids x1 w13 hw1 HWM.out HN.out hn0 (Nat.le_refl _) HIM.out h2 hx1 HB13.out C213.out HW13.out HASC.out).mono ?_
  rintro e w14 ⟨lo3, i3, a14, c14, hf3, hi3, rfl, W14, hd14⟩
  obtain ⟨g1, g2⟩ := HHIT.out lo3 hf3
  have e3 : nd wn ids i3 = x1 := by rw [hi3, if_neg (by omega)]; exact g2
  rw [e3] at W14 ⊢
  have HW14 := hid W14
  have HW12 : Hid (Words w14 a12 x1) := HW13.out.drawn hd14
  have B14 : Hid (Below w2.heap.size w2 w14) := hd14.below B13.out
  have HZ := hid (cmpL_self x1)
  clear g1 g2 e3 hf3 hi3 W14 hd14 HW13 C213 HB13 B13
  go_wp2_with fail
  refine (cmpWords15 a12 a14 c12 c14 x1 x1 w14 HX1.out HX1.out HW12.out HW14.out).mono ?_
  rintro e w15 ⟨rfl, hd15⟩
  rw [HZ.out]
  have B15 := hid (hd15.below B14.out)
  clear hd15
  go_wp2
  go_ret
  exact ⟨rfl, B15.out⟩
end Go.Proofs.Qxb6603742a
