import Derived.Test.Qxb6603742aSearch
namespace Go.Proofs.Qxb6603742a
open Go.ChangeShapes Go.WideShapes Go.ChangeAt Go.RowKit

set_option maxHeartbeats 4000000 in
theorem search28 (rb wd n ic pc : Nat) (ia pa : Option Addr) (b nm : Value) (xs p : List Int) (w : World) (hw : 1 ≤ wd) (hwm : wd ≤ maxLen) (hn : n = xs.length / wd) (hc : xs.length ≤ ic) (hcm : ic ≤ maxLen) (hx : xs.length ≤ 131072) (hp : p.length ≤ 131072)
    (hr : Blk w rb 47 [b, .int .i64 wd, .slice ia xs.length ic, nm]) (hA : Words w ia xs) (hP : Words w pa p) (hasc : Asc wd xs n) :
    Calls Try.prog 28 #[.pointer (some ⟨rb, 0, none⟩), .slice pa p.length pc] w fun e w' => ∃ lo, Found wd xs n p lo ∧ e = .returned (.tuple #[.int .i64 lo, .bool (decide (lo < n ∧ nd wd xs lo = p))]) ∧ Drawn w w' := by
  have HR := hid hr
  have HA := hid hA
  have HP := hid hP
  have HN := hid hn
  have HCM := hid hcm
  have HWM := hid hwm
  have HASC := hid hasc
  have hnn : n ≤ xs.length := by rw [hn]; exact Nat.div_le_self _ _
  clear hr hA hP hn hcm hwm hasc
  have hpm : p.length ≤ maxLen := by unfold maxLen; omega
  have hxm : xs.length ≤ maxLen := by unfold maxLen; omega
  have HPM := hid hpm
  have HXM := hid hxm
  clear hpm hxm
  go_enter Try.func28, Try.ntmps28
  go_wp2_with fail
  refine (len26 rb xs.length ic wd n ia b nm w hw HXM.out HWM.out HN.out HR.out).mono ?_
  rintro e w1 ⟨rfl, hd1⟩
  have HD1 := hid hd1
  clear hd1
  go_wp2_with fail
  go_loopw [6, 7] (fun s6 s7 wr => ∃ lo hi : Nat, s6 = .int .i64 lo ∧ s7 = .int .i64 hi ∧ lo ≤ hi ∧ hi ≤ n ∧ Hid (Drawn w wr) ∧ Hid (∀ i, i < lo → cmpL (nd wd xs i) p < 0) ∧ Hid (∀ i, hi ≤ i → i < n → 0 ≤ cmpL (nd wd xs i) p)) (fun s6 s7 _ => ((intOf s7) - (intOf s6)).toNat)
  case atStart => exact ⟨0, n, rfl, rfl, Nat.zero_le _, Nat.le_refl _, HD1, fun i h => by omega, fun i h1 h2 => by omega⟩
  case round =>
    clear HD1
    obtain ⟨lo, hi, rfl, rfl, hlh, hhn, hd, hlow, hhigh⟩ := hrel
    by_cases hlt : lo < hi
    · obtain ⟨mid, hmid⟩ : ∃ mid, mid = (lo + hi) / 2 := ⟨_, rfl⟩
      have e1 : ((lo : Int) + (hi : Int)) / 2 = (mid : Int) := by omega
      have hm1 : lo ≤ mid := by omega
      have hm2 : mid < hi := by omega
      clear hmid
      have HR1 := hid (HR.out.drawn hd.out)
      have HA1 : Hid (Words wr ia xs) := HA.out.drawn hd.out
      go_wp2_with fail
      refine (node_any rb wd n mid ic ia b nm xs wr hw HN.out (by omega) hc HCM.out HR1.out HA1.out).mono ?_
      rintro e w2 ⟨a2, c2, rfl, W2, hd2⟩
      have HD2 := hid (hd.out.trans hd2)
      have HW2 : Hid (Words w2 a2 (nd wd xs mid)) := W2.drawn hd2
      have HP2 : Hid (Words w2 pa p) := HP.out.drawn HD2.out
      have l2 := hid (nd_len_le (wd := wd) (i := mid) HN.out (by omega) HXM.out)
      have HLO : Hid (cmpL (nd wd xs mid) p < 0 → ∀ i, i < mid + 1 → cmpL (nd wd xs i) p < 0) := fun h i hi' => HASC.out.mono (show i ≤ mid by omega) (by omega) h
      have HHI : Hid (0 ≤ cmpL (nd wd xs mid) p → ∀ i, mid ≤ i → i < n → 0 ≤ cmpL (nd wd xs i) p) := fun h i h1 h2 => by
        by_cases h3 : cmpL (nd wd xs i) p < 0
        · have := HASC.out.mono h1 h2 h3; omega
        · omega
      clear hd2 W2 HR1 HA1
      generalize nd wd xs mid = x2 at HW2 l2 HLO HHI ⊢
      go_wp2_with fail
      refine (compare32 a2 pa c2 pc x2 p w2 l2.out HPM.out HW2.out HP2.out).mono ?_
      rintro e w3 ⟨rfl, rfl⟩
      by_cases hc0 : cmpL x2 p < 0
      · have HL := hid (HLO.out hc0)
        clear HLO HHI
        go_wp2
        go_roundw
        case rel => exact ⟨mid + 1, hi, by go_num, rfl, by omega, hhn, HD2, HL, hhigh⟩
        case measure => simp [intOf]; omega
      · have HH := hid (HHI.out (by omega))
        clear HLO HHI
        go_wp2
        go_roundw
        case rel => exact ⟨lo, mid, rfl, rfl, by omega, by omega, HD2, hlow, HH⟩
        case measure => simp [intOf]; omega
    · obtain rfl : lo = hi := by omega
      have HFO : Hid (Found wd xs n p lo) := ⟨hhn, hlow.out, fun i h1 h2 => by have := hhigh.out i h1 h2; omega⟩
      clear hlow hhigh
      have HR1 := hid (HR.out.drawn hd.out)
      go_wp2_with fail
      refine (len26 rb xs.length ic wd n ia b nm wr hw HXM.out HWM.out HN.out HR1.out).mono ?_
      rintro e w2 ⟨rfl, hd2⟩
      have HD2 := hid (hd.out.trans hd2)
      clear hd2 HR1
      by_cases hln : lo < n
      · have HR2 := hid (HR.out.drawn HD2.out)
        have HA2 : Hid (Words w2 ia xs) := HA.out.drawn HD2.out
        go_wp2_with fail
        refine (node_any rb wd n lo ic ia b nm xs w2 hw HN.out hln hc HCM.out HR2.out HA2.out).mono ?_
        rintro e w3 ⟨a3, c3, rfl, W3, hd3⟩
        have HD3 := hid (HD2.out.trans hd3)
        have HW3 : Hid (Words w3 a3 (nd wd xs lo)) := W3.drawn hd3
        have HP3 : Hid (Words w3 pa p) := HP.out.drawn HD3.out
        have l3 := hid (nd_len_le (wd := wd) (i := lo) HN.out hln HXM.out)
        have HRES : Hid (decide (lo < n ∧ nd wd xs lo = p) = decide (nd wd xs lo = p)) := by
          show _ = _
          by_cases e : nd wd xs lo = p
          · rw [decide_eq_true e, decide_eq_true ⟨hln, e⟩]
          · rw [decide_eq_false e, decide_eq_false (fun h => e h.2)]
        clear hd3 W3 HR2 HA2
        generalize hx3 : nd wd xs lo = x3 at HW3 l3 HRES ⊢
        have HX3 := hid hx3
        clear hx3
        go_wp2_with fail
        refine (equal33 a3 pa c3 pc x3 p w3 l3.out HW3.out HP3.out).mono ?_
        rintro e w4 ⟨rfl, hd4⟩
        have HD4 := hid (HD3.out.trans hd4)
        clear hd4
        generalize decide (x3 = p) = r at HRES ⊢
        go_wp2
        go_ret2
        exact ⟨lo, HFO.out, by rw [HX3.out, HRES.out]; rfl, HD4.out⟩
      · have HRES : Hid (decide (lo < n ∧ nd wd xs lo = p) = false) := decide_eq_false (fun h => hln h.1)
        have hdl : decide ((lo : Int) < (n : Int)) = false := decide_eq_false (by omega)
        go_wp2
        go_ret2
        exact ⟨lo, HFO.out, by rw [HRES.out]; rfl, HD2.out⟩

theorem zzsearch14 (rb wd n ic pc : Nat) (ia pa : Option Addr) (b nm : Value) (xs p : List Int) (w : World) (hw : 1 ≤ wd) (hwm : wd ≤ maxLen) (hn : n = xs.length / wd) (hc : xs.length ≤ ic) (hcm : ic ≤ maxLen) (hx : xs.length ≤ 131072) (hp : p.length ≤ 131072)
    (hr : Blk w rb 47 [b, .int .i64 wd, .slice ia xs.length ic, nm]) (hA : Words w ia xs) (hP : Words w pa p) (hasc : Asc wd xs n) :
    Calls Try.prog 14 #[.pointer (some ⟨rb, 0, none⟩), .slice pa p.length pc] w fun e w' => ∃ lo, Found wd xs n p lo ∧ e = .returned (.tuple #[.int .i64 lo, .bool (decide (lo < n ∧ nd wd xs lo = p))]) ∧ Drawn w w' := by
  have HS := hid (search28 rb wd n ic pc ia pa b nm xs p w hw hwm hn hc hcm hx hp hr hA hP hasc)
  clear hr hA hP hasc hn hcm hwm
  go_enter Try.func14, Try.ntmps14
  go_wp2_with fail
  refine HS.out.mono ?_
  rintro e w1 ⟨lo, hf, rfl, hd⟩
  have HFO := hid hf
  have HD := hid hd
  clear hf hd HS
  generalize hr : decide (lo < n ∧ nd wd xs lo = p) = r
  have HRR := hid hr
  clear hr
  go_wp2
  go_ret2
  exact ⟨lo, HFO.out, by rw [HRR.out]; rfl, HD.out⟩

set_option maxHeartbeats 2000000 in
theorem successor29 (rb wd n ic pc : Nat) (ia pa : Option Addr) (b nm : Value) (xs p : List Int) (w : World) (hw : 1 ≤ wd) (hwm : wd ≤ maxLen) (hn : n = xs.length / wd) (hn1 : 1 ≤ n) (hc : xs.length ≤ ic) (hcm : ic ≤ maxLen) (hx : xs.length ≤ 131072) (hp : p.length ≤ 131072)
    (hr : Blk w rb 47 [b, .int .i64 wd, .slice ia xs.length ic, nm]) (hA : Words w ia xs) (hP : Words w pa p) (hasc : Asc wd xs n) :
    Calls Try.prog 29 #[.pointer (some ⟨rb, 0, none⟩), .slice pa p.length pc] w fun e w' => ∃ lo i a' c', Found wd xs n p lo ∧ i = (if lo = n then 0 else lo) ∧ e = .returned (.slice a' (nd wd xs i).length c') ∧ Words w' a' (nd wd xs i) ∧ Drawn w w' := by
  have HS := hid (search28 rb wd n ic pc ia pa b nm xs p w hw hwm hn hc hcm hx hp hr hA hP hasc)
  have HR := hid hr
  have HA := hid hA
  have HN := hid hn
  have HCM := hid hcm
  have HWM := hid hwm
  have HXM : Hid (xs.length ≤ maxLen) := by show _ ≤ _; unfold maxLen; omega
  have hnn : n ≤ xs.length := by rw [hn]; exact Nat.div_le_self _ _
  clear hr hA hP hasc hn hcm hwm
  go_enter Try.func29, Try.ntmps29
  go_wp2_with fail
  refine HS.out.mono ?_
  rintro e w1 ⟨lo, hf, rfl, hd⟩
  have HFO := hid hf
  have hlo := hf.le
  have HD := hid hd
  clear hf hd HS
  generalize decide (lo < n ∧ nd wd xs lo = p) = r
  go_wp2_with fail
  refine (len26 rb xs.length ic wd n ia b nm w1 hw HXM.out HWM.out HN.out (HR.out.drawn HD.out)).mono ?_
  rintro e w2 ⟨rfl, hd2⟩
  have HD2 := hid (HD.out.trans hd2)
  clear hd2 HD
  have HR2 := hid (HR.out.drawn HD2.out)
  have HA2 : Hid (Words w2 ia xs) := HA.out.drawn HD2.out
  by_cases e : lo = n
  · have HI : Hid ((0 : Nat) = if lo = n then 0 else lo) := by show _ = _; rw [if_pos e]
    have hb : ((lo : Int) == (n : Int)) = true := by simp [e]
    clear e
    go_wp2_with fail
    rw [show (0 : Int) = ((0 : Nat) : Int) from rfl]
    refine (node_any rb wd n 0 ic ia b nm xs w2 hw HN.out (by omega) hc HCM.out HR2.out HA2.out).mono ?_
    rintro e w3 ⟨a3, c3, rfl, W3, hd3⟩
    have HW3 := hid (W3.drawn hd3)
    have HD3 := hid (HD2.out.trans hd3)
    clear W3 hd3
    generalize hx3 : nd wd xs 0 = x3 at HW3 ⊢
    have HX3 := hid hx3
    clear hx3
    go_wp2
    go_ret
    exact ⟨lo, 0, a3, c3, HFO.out, HI.out, by rw [HX3.out]; rfl, by rw [HX3.out]; exact HW3.out, HD3.out⟩
  · have HI : Hid (lo = if lo = n then 0 else lo) := by show _ = _; rw [if_neg e]
    have hb : ((lo : Int) == (n : Int)) = false := by simp; omega
    have hlt : lo < n := by omega
    clear e
    go_wp2_with fail
    refine (node_any rb wd n lo ic ia b nm xs w2 hw HN.out hlt hc HCM.out HR2.out HA2.out).mono ?_
    rintro e w3 ⟨a3, c3, rfl, W3, hd3⟩
    have HW3 := hid (W3.drawn hd3)
    have HD3 := hid (HD2.out.trans hd3)
    clear W3 hd3
    generalize hx3 : nd wd xs lo = x3 at HW3 ⊢
    have HX3 := hid hx3
    clear hx3
    go_wp2
    go_ret
    exact ⟨lo, lo, a3, c3, HFO.out, HI.out, by rw [HX3.out]; rfl, by rw [HX3.out]; exact HW3.out, HD3.out⟩

theorem zzsuccessor18 (rb wd n ic pc : Nat) (ia pa : Option Addr) (b nm : Value) (xs p : List Int) (w : World) (hw : 1 ≤ wd) (hwm : wd ≤ maxLen) (hn : n = xs.length / wd) (hn1 : 1 ≤ n) (hc : xs.length ≤ ic) (hcm : ic ≤ maxLen) (hx : xs.length ≤ 131072) (hp : p.length ≤ 131072)
    (hr : Blk w rb 47 [b, .int .i64 wd, .slice ia xs.length ic, nm]) (hA : Words w ia xs) (hP : Words w pa p) (hasc : Asc wd xs n) :
    Calls Try.prog 18 #[.pointer (some ⟨rb, 0, none⟩), .slice pa p.length pc] w fun e w' => ∃ lo i a' c', Found wd xs n p lo ∧ i = (if lo = n then 0 else lo) ∧ e = .returned (.slice a' (nd wd xs i).length c') ∧ Words w' a' (nd wd xs i) ∧ Drawn w w' := by
  have HS := hid (successor29 rb wd n ic pc ia pa b nm xs p w hw hwm hn hn1 hc hcm hx hp hr hA hP hasc)
  clear hr hA hP hasc hn hcm hwm
  go_enter Try.func18, Try.ntmps18
  go_wp2_with fail
  refine HS.out.mono ?_
  rintro e w1 ⟨lo, i, a', c', hf, hi, rfl, hW, hd⟩
  have HFO := hid hf
  have HI := hid hi
  have HW := hid hW
  have HD := hid hd
  clear hf hi hW hd HS
  generalize hx3 : nd wd xs i = x3 at HW ⊢
  have HX3 := hid hx3
  clear hx3
  go_wp2
  go_ret
  exact ⟨lo, i, a', c', HFO.out, HI.out, by rw [HX3.out]; rfl, by rw [HX3.out]; exact HW.out, HD.out⟩
end Go.Proofs.Qxb6603742a
